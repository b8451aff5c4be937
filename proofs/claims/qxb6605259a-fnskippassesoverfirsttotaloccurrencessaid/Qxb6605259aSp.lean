/-
  THE LAW OF SKIP: the code cut at its statements; the plain functions.
-/
import Derived.Test.Qxb6605259aSh
namespace Go.Proofs.Qxb6605259a
open Go.RowKit Go.Maps

/-- a chain of statements without its first n. -/
def dropS : Nat → Code → Code
  | 0, c => c
  | n + 1, .seq _ b => dropS n b
  | _ + 1, c => c
/-- the loop of the chain's first statement. -/
def loopIn : Code → Code
  | .seq (.seq _ (.block _ c)) _ => c
  | c => c
/-- the chain's first statement. -/
def headS : Code → Code
  | .seq a _ => a
  | c => c
/-- one statement, then the rest, which stays shut. -/
theorem wp_drop {P : Program} {C D : Code} {Q : Exit → Act → World → Prop} {a : Act} {w : World} (hs : C = .seq (headS C) D)
    (h : ∀ R, D = R → (headS C).wp P (Exit.then (R.wp P Q) Q) a w) : C.wp P Q a w := by
  rw [hs]
  exact wp_seq (h D rfl)
/-- what the law's call is to end in. -/
def Rq (w : World) (e : Ending) (w' : World) : Prop := e = .returned (.bool true) ∧ Below w.heap.size w w'

/-- the key of element i. -/
def key (ss : List ByteArray) (i : Nat) : List UInt8 := (ss.getD i ByteArray.empty).data.toList
def foldV (ss : List ByteArray) (zs : List Int) : Nat → List UInt8 → Int
  | 0 => fun _ => 0
  | i + 1 => updV (foldV ss zs i) (key ss i) (zs.getD i 0)
def foldH (ss : List ByteArray) : Nat → List UInt8 → Bool
  | 0 => fun _ => false
  | i + 1 => updH (foldH ss i) (key ss i)
def foldZ (ss : List ByteArray) : Nat → Nat
  | 0 => 0
  | i + 1 => updZ (foldH ss i) (key ss i) (foldZ ss i)
theorem foldH_key (ss : List ByteArray) : ∀ (n i : Nat), i < n → foldH ss n (key ss i) = true := by
  intro n
  induction n with
  | zero => intro i h; omega
  | succ n ih =>
    intro i h
    show updH _ _ _ = true
    unfold updH
    by_cases e : key ss i = key ss n
    · rw [if_pos e]
    · rw [if_neg e]
      have : i ≠ n := fun q => e (by rw [q])
      exact ih i (by omega)
theorem foldZ_le (ss : List ByteArray) : ∀ n, foldZ ss n ≤ n := by
  intro n
  induction n with
  | zero => exact Nat.le_refl _
  | succ n ih =>
    show updZ _ _ _ ≤ _
    unfold updZ
    split <;> omega

/-- how often x stands among the first i. -/
def cnt (ss : List ByteArray) : Nat → List UInt8 → Nat
  | 0, _ => 0
  | i + 1, x => cnt ss i x + if x = key ss i then 1 else 0
theorem cnt_le (ss : List ByteArray) (x : List UInt8) : ∀ n, cnt ss n x ≤ n := by
  intro n
  induction n with
  | zero => exact Nat.le_refl _
  | succ n ih => show cnt ss n x + _ ≤ _; split <;> omega
/-- the distinct ones among the first i, each where it first stands. -/
def dst (ss : List ByteArray) : Nat → List ByteArray
  | 0 => []
  | i + 1 => if cnt ss i (key ss i) = 0 then dst ss i ++ [ss.getD i ByteArray.empty] else dst ss i
theorem dst_len (ss : List ByteArray) : ∀ n, (dst ss n).length ≤ n := by
  intro n
  induction n with
  | zero => exact Nat.le_refl _
  | succ n ih =>
    show (if cnt ss n (key ss n) = 0 then dst ss n ++ [ss.getD n ByteArray.empty] else dst ss n).length ≤ _
    split
    · rw [List.length_append]; exact Nat.add_le_add_right ih 1
    · omega
theorem cnt_mono (ss : List ByteArray) (x : List UInt8) (n : Nat) : cnt ss n x ≤ cnt ss (n + 1) x := Nat.le_add_right _ _
theorem dst_mem (ss : List ByteArray) : ∀ (n : Nat) (x : ByteArray), x ∈ dst ss n → (∃ j, j < n ∧ x = ss.getD j ByteArray.empty) ∧ 0 < cnt ss n x.data.toList := by
  intro n
  induction n with
  | zero => intro x h; cases h
  | succ n ih =>
    intro x h
    have key' : x ∈ dst ss n ∨ x = ss.getD n ByteArray.empty := by
      have h' : x ∈ (if cnt ss n (key ss n) = 0 then dst ss n ++ [ss.getD n ByteArray.empty] else dst ss n) := h
      split at h'
      · rcases List.mem_append.1 h' with q | q
        · exact .inl q
        · exact .inr (List.mem_singleton.1 q)
      · exact .inl h'
    rcases key' with q | q
    · obtain ⟨⟨j, hj, e⟩, hc⟩ := ih x q
      exact ⟨⟨j, by omega, e⟩, Nat.lt_of_lt_of_le hc (cnt_mono _ _ _)⟩
    · refine ⟨⟨n, by omega, q⟩, ?_⟩
      show 0 < cnt ss n x.data.toList + if x.data.toList = key ss n then 1 else 0
      rw [q, if_pos (by rfl)]
      omega

/-- the room of x, how many of it were passed over when the first i were asked. -/
def room (T B : List UInt8 → Int) (x : List UInt8) : Nat := (T x - B x).toNat
def pas (T B : List UInt8 → Int) (ss : List ByteArray) (i : Nat) (x : List UInt8) : Nat := min (cnt ss i x) (room T B x)
def skV (T B : List UInt8 → Int) (ss : List ByteArray) (i : Nat) (x : List UInt8) : Int := B x + pas T B ss i x
def skH (T B : List UInt8 → Int) (BH : List UInt8 → Bool) (ss : List ByteArray) (i : Nat) (x : List UInt8) : Bool := BH x || decide (0 < pas T B ss i x)
/-- is x new in the map, once met? -/
def nw (T B : List UInt8 → Int) (BH : List UInt8 → Bool) (x : ByteArray) : Bool := !BH x.data.toList && decide (0 < room T B x.data.toList)
def add (T B : List UInt8 → Int) (BH : List UInt8 → Bool) (xs : List ByteArray) : Nat := xs.countP (nw T B BH)

variable {T B : List UInt8 → Int} {BH : List UInt8 → Bool} {ss : List ByteArray} {i : Nat}
/-- a round in which the call says no. -/
theorem sk_no (h : room T B (key ss i) ≤ cnt ss i (key ss i)) :
    (∀ x, skV T B ss i x = skV T B ss (i + 1) x) ∧ (∀ x, skH T B BH ss i x = skH T B BH ss (i + 1) x) ∧ skV T B ss i (key ss i) = B (key ss i) + room T B (key ss i) ∧ add T B BH (dst ss (i + 1)) = add T B BH (dst ss i) := by
  have hp : ∀ x, pas T B ss i x = pas T B ss (i + 1) x := by
    intro x
    unfold pas
    show min (cnt ss i x) _ = min (cnt ss i x + if x = key ss i then 1 else 0) _
    by_cases e : x = key ss i
    · subst e; omega
    · rw [if_neg e]; omega
  refine ⟨fun x => by unfold skV; rw [hp], fun x => by unfold skH; rw [hp], ?_, ?_⟩
  · unfold skV pas; omega
  · show add T B BH (if cnt ss i (key ss i) = 0 then dst ss i ++ [ss.getD i ByteArray.empty] else dst ss i) = _
    split
    · rename_i h0
      unfold add
      rw [List.countP_append, List.countP_cons, List.countP_nil]
      have : nw T B BH (ss.getD i ByteArray.empty) = false := by
        unfold nw
        have : room T B (ss.getD i ByteArray.empty).data.toList = 0 := by
          have : room T B (key ss i) = 0 := by omega
          exact this
        rw [this]; simp
      rw [this]; rfl
    · rfl
/-- a round in which it says yes. -/
theorem sk_yes {zb : Nat} (h : cnt ss i (key ss i) < room T B (key ss i)) :
    (∀ x, updV (skV T B ss i) (key ss i) (skV T B ss i (key ss i) + 1) x = skV T B ss (i + 1) x) ∧ (∀ x, updH (skH T B BH ss i) (key ss i) x = skH T B BH ss (i + 1) x) ∧ skV T B ss i (key ss i) = B (key ss i) + cnt ss i (key ss i) ∧
      updZ (skH T B BH ss i) (key ss i) (zb + add T B BH (dst ss i)) = zb + add T B BH (dst ss (i + 1)) := by
  have hk : pas T B ss (i + 1) (key ss i) = pas T B ss i (key ss i) + 1 := by
    unfold pas
    show min (cnt ss i (key ss i) + if key ss i = key ss i then 1 else 0) _ = _
    rw [if_pos rfl]; omega
  have ho : ∀ x, x ≠ key ss i → pas T B ss (i + 1) x = pas T B ss i x := by
    intro x e
    unfold pas
    show min (cnt ss i x + if x = key ss i then 1 else 0) _ = _
    rw [if_neg e]; rfl
  refine ⟨fun x => ?_, fun x => ?_, ?_, ?_⟩
  · unfold updV
    by_cases e : x = key ss i
    · rw [if_pos e, e]; unfold skV; rw [hk]; omega
    · rw [if_neg e]; unfold skV; rw [ho x e]
  · unfold updH
    by_cases e : x = key ss i
    · rw [if_pos e, e]; unfold skH; rw [hk]; simp
    · rw [if_neg e]; unfold skH; rw [ho x e]
  · unfold skV pas; omega
  · show _ = zb + add T B BH (if cnt ss i (key ss i) = 0 then dst ss i ++ [ss.getD i ByteArray.empty] else dst ss i)
    unfold updZ
    have hr : 0 < room T B (key ss i) := by omega
    by_cases h0 : cnt ss i (key ss i) = 0
    · rw [if_pos h0]
      have hH : skH T B BH ss i (key ss i) = BH (key ss i) := by unfold skH pas; rw [h0]; simp
      have hn : nw T B BH (ss.getD i ByteArray.empty) = !BH (key ss i) := by
        show (!BH (key ss i) && decide (0 < room T B (key ss i))) = _
        simp [hr]
      rw [hH]
      unfold add
      rw [List.countP_append, List.countP_cons, List.countP_nil, hn]
      cases hb : BH (key ss i)
      · rfl
      · rfl
    · rw [if_neg h0]
      have hH : skH T B BH ss i (key ss i) = true := by
        unfold skH pas
        have : 0 < min (cnt ss i (key ss i)) (room T B (key ss i)) := by omega
        simp [this]
      rw [hH]; rfl
end Go.Proofs.Qxb6605259a
