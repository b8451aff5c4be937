/-
  THE WALK of 'zzBigEndian16'.
-/
import Derived.Test.Qxb6605259aBw
import Derived.LoopN
namespace Go.Proofs.Qxb6605259a
open Go.RowKit

/-- the sixteen bytes, the highest first. -/
def beD (hi lo : Int) (j : Nat) : Int := [(hi / 72057594037927936), (hi / 281474976710656 % 256), (hi / 1099511627776 % 256), (hi / 4294967296 % 256), (hi / 16777216 % 256), (hi / 65536 % 256), (hi / 256 % 256), (hi % 256), (lo / 72057594037927936), (lo / 281474976710656 % 256), (lo / 1099511627776 % 256), (lo / 4294967296 % 256), (lo / 16777216 % 256), (lo / 65536 % 256), (lo / 256 % 256), (lo % 256)].getD j 0

set_option maxHeartbeats 1000000 in
theorem big_core (hi lo : Int) (w : World) (h0 : 0 ≤ hi) (h1 : hi ≤ 18446744073709551615) (l0 : 0 ≤ lo) (l1 : lo ≤ 18446744073709551615) :
    Calls Try.prog 8 #[.int .u64 hi, .int .u64 lo] w fun e w' => e = .returned (.agg #[.int .u8 (hi / 72057594037927936), .int .u8 (hi / 281474976710656 % 256), .int .u8 (hi / 1099511627776 % 256), .int .u8 (hi / 4294967296 % 256), .int .u8 (hi / 16777216 % 256), .int .u8 (hi / 65536 % 256), .int .u8 (hi / 256 % 256), .int .u8 (hi % 256), .int .u8 (lo / 72057594037927936), .int .u8 (lo / 281474976710656 % 256), .int .u8 (lo / 1099511627776 % 256), .int .u8 (lo / 4294967296 % 256), .int .u8 (lo / 16777216 % 256), .int .u8 (lo / 65536 % 256), .int .u8 (lo / 256 % 256), .int .u8 (lo % 256)]) ∧ Below w.heap.size w w' := by
  go_enter Try.func8, Try.ntmps8
  go_wp2
  refine wp_loop_rounds 9 ?_
  iterate 9 (rw [rounds_succ]; go_wp2)
  exact bodyPost_ret (v := .agg #[.int .u8 (hi / 72057594037927936), .int .u8 (hi / 281474976710656 % 256), .int .u8 (hi / 1099511627776 % 256), .int .u8 (hi / 4294967296 % 256), .int .u8 (hi / 16777216 % 256), .int .u8 (hi / 65536 % 256), .int .u8 (hi / 256 % 256), .int .u8 (hi % 256), .int .u8 (lo / 72057594037927936), .int .u8 (lo / 281474976710656 % 256), .int .u8 (lo / 1099511627776 % 256), .int .u8 (lo / 4294967296 % 256), .int .u8 (lo / 16777216 % 256), .int .u8 (lo / 65536 % 256), .int .u8 (lo / 256 % 256), .int .u8 (lo % 256)]) (by simp [results, Try.results8, go_sem]) rfl ⟨rfl, ((Below.refl _ _).alloc (Nat.le_refl _) _).alloc (by simp) _⟩

theorem big_any (hi lo : Int) (w : World) (h0 : 0 ≤ hi) (h1 : hi ≤ 18446744073709551615) (l0 : 0 ≤ lo) (l1 : lo ≤ 18446744073709551615) :
    Calls Try.prog 8 #[.int .u64 hi, .int .u64 lo] w fun e w' => e = .returned (.agg #[.int .u8 (beD hi lo 0), .int .u8 (beD hi lo 1), .int .u8 (beD hi lo 2), .int .u8 (beD hi lo 3), .int .u8 (beD hi lo 4), .int .u8 (beD hi lo 5), .int .u8 (beD hi lo 6), .int .u8 (beD hi lo 7), .int .u8 (beD hi lo 8), .int .u8 (beD hi lo 9), .int .u8 (beD hi lo 10), .int .u8 (beD hi lo 11), .int .u8 (beD hi lo 12), .int .u8 (beD hi lo 13), .int .u8 (beD hi lo 14), .int .u8 (beD hi lo 15)]) ∧ Below w.heap.size w w' :=
  (big_core hi lo w h0 h1 l0 l1).mono fun _ _ h => ⟨h.1.trans rfl, h.2⟩
end Go.Proofs.Qxb6605259a
