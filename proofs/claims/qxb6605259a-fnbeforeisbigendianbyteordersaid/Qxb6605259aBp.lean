/-
  THE PLAIN LAW: the byte order of the sixteen bytes is the order by block, then by index.
-/
import Derived.Test.Qxb6605259aBe
import Derived.Test.Qxb6605259aLs
namespace Go.Proofs.Qxb6605259a
open Go.RowKit
set_option linter.unusedVariables false

theorem d8_lt0 (x y : Int) (x0 : 0 ≤ x) (x1 : x ≤ 18446744073709551615) (y0 : 0 ≤ y) (y1 : y ≤ 18446744073709551615)  (h : x / 72057594037927936 < y / 72057594037927936) : x < y := by omega
theorem d8_lt1 (x y : Int) (x0 : 0 ≤ x) (x1 : x ≤ 18446744073709551615) (y0 : 0 ≤ y) (y1 : y ≤ 18446744073709551615) (h0 : x / 72057594037927936 = y / 72057594037927936) (h : x / 281474976710656 % 256 < y / 281474976710656 % 256) : x < y := by omega
theorem d8_lt2 (x y : Int) (x0 : 0 ≤ x) (x1 : x ≤ 18446744073709551615) (y0 : 0 ≤ y) (y1 : y ≤ 18446744073709551615) (h0 : x / 72057594037927936 = y / 72057594037927936) (h1 : x / 281474976710656 % 256 = y / 281474976710656 % 256) (h : x / 1099511627776 % 256 < y / 1099511627776 % 256) : x < y := by omega
theorem d8_lt3 (x y : Int) (x0 : 0 ≤ x) (x1 : x ≤ 18446744073709551615) (y0 : 0 ≤ y) (y1 : y ≤ 18446744073709551615) (h0 : x / 72057594037927936 = y / 72057594037927936) (h1 : x / 281474976710656 % 256 = y / 281474976710656 % 256) (h2 : x / 1099511627776 % 256 = y / 1099511627776 % 256) (h : x / 4294967296 % 256 < y / 4294967296 % 256) : x < y := by omega
theorem d8_lt4 (x y : Int) (x0 : 0 ≤ x) (x1 : x ≤ 18446744073709551615) (y0 : 0 ≤ y) (y1 : y ≤ 18446744073709551615) (h0 : x / 72057594037927936 = y / 72057594037927936) (h1 : x / 281474976710656 % 256 = y / 281474976710656 % 256) (h2 : x / 1099511627776 % 256 = y / 1099511627776 % 256) (h3 : x / 4294967296 % 256 = y / 4294967296 % 256) (h : x / 16777216 % 256 < y / 16777216 % 256) : x < y := by omega
theorem d8_lt5 (x y : Int) (x0 : 0 ≤ x) (x1 : x ≤ 18446744073709551615) (y0 : 0 ≤ y) (y1 : y ≤ 18446744073709551615) (h0 : x / 72057594037927936 = y / 72057594037927936) (h1 : x / 281474976710656 % 256 = y / 281474976710656 % 256) (h2 : x / 1099511627776 % 256 = y / 1099511627776 % 256) (h3 : x / 4294967296 % 256 = y / 4294967296 % 256) (h4 : x / 16777216 % 256 = y / 16777216 % 256) (h : x / 65536 % 256 < y / 65536 % 256) : x < y := by omega
theorem d8_lt6 (x y : Int) (x0 : 0 ≤ x) (x1 : x ≤ 18446744073709551615) (y0 : 0 ≤ y) (y1 : y ≤ 18446744073709551615) (h0 : x / 72057594037927936 = y / 72057594037927936) (h1 : x / 281474976710656 % 256 = y / 281474976710656 % 256) (h2 : x / 1099511627776 % 256 = y / 1099511627776 % 256) (h3 : x / 4294967296 % 256 = y / 4294967296 % 256) (h4 : x / 16777216 % 256 = y / 16777216 % 256) (h5 : x / 65536 % 256 = y / 65536 % 256) (h : x / 256 % 256 < y / 256 % 256) : x < y := by omega
theorem d8_lt7 (x y : Int) (x0 : 0 ≤ x) (x1 : x ≤ 18446744073709551615) (y0 : 0 ≤ y) (y1 : y ≤ 18446744073709551615) (h0 : x / 72057594037927936 = y / 72057594037927936) (h1 : x / 281474976710656 % 256 = y / 281474976710656 % 256) (h2 : x / 1099511627776 % 256 = y / 1099511627776 % 256) (h3 : x / 4294967296 % 256 = y / 4294967296 % 256) (h4 : x / 16777216 % 256 = y / 16777216 % 256) (h5 : x / 65536 % 256 = y / 65536 % 256) (h6 : x / 256 % 256 = y / 256 % 256) (h : x % 256 < y % 256) : x < y := by omega
theorem d8_eq (x y : Int) (x0 : 0 ≤ x) (x1 : x ≤ 18446744073709551615) (y0 : 0 ≤ y) (y1 : y ≤ 18446744073709551615) (h0 : x / 72057594037927936 = y / 72057594037927936) (h1 : x / 281474976710656 % 256 = y / 281474976710656 % 256) (h2 : x / 1099511627776 % 256 = y / 1099511627776 % 256) (h3 : x / 4294967296 % 256 = y / 4294967296 % 256) (h4 : x / 16777216 % 256 = y / 16777216 % 256) (h5 : x / 65536 % 256 = y / 65536 % 256) (h6 : x / 256 % 256 = y / 256 % 256) (h7 : x % 256 = y % 256) : x = y := by omega

/-- the first parting byte, with which way it parts, decides. -/
theorem be_lt (a b c d : Int) (a0 : 0 ≤ a) (a1 : a ≤ 18446744073709551615) (b0 : 0 ≤ b) (b1 : b ≤ 18446744073709551615) (c0 : 0 ≤ c) (c1 : c ≤ 18446744073709551615) (d0 : 0 ≤ d) (d1 : d ≤ 18446744073709551615)
    (k : Nat) (hk : k < 16) (he : ∀ j, j < k → beD a b j = beD c d j) (hl : beD a b k < beD c d k) : a < c ∨ (a = c ∧ b < d) := by
  match k, hk with
  | 0, _ => exact .inl (d8_lt0 a c a0 a1 c0 c1  hl)
  | 1, _ => exact .inl (d8_lt1 a c a0 a1 c0 c1 (he 0 (by omega)) hl)
  | 2, _ => exact .inl (d8_lt2 a c a0 a1 c0 c1 (he 0 (by omega)) (he 1 (by omega)) hl)
  | 3, _ => exact .inl (d8_lt3 a c a0 a1 c0 c1 (he 0 (by omega)) (he 1 (by omega)) (he 2 (by omega)) hl)
  | 4, _ => exact .inl (d8_lt4 a c a0 a1 c0 c1 (he 0 (by omega)) (he 1 (by omega)) (he 2 (by omega)) (he 3 (by omega)) hl)
  | 5, _ => exact .inl (d8_lt5 a c a0 a1 c0 c1 (he 0 (by omega)) (he 1 (by omega)) (he 2 (by omega)) (he 3 (by omega)) (he 4 (by omega)) hl)
  | 6, _ => exact .inl (d8_lt6 a c a0 a1 c0 c1 (he 0 (by omega)) (he 1 (by omega)) (he 2 (by omega)) (he 3 (by omega)) (he 4 (by omega)) (he 5 (by omega)) hl)
  | 7, _ => exact .inl (d8_lt7 a c a0 a1 c0 c1 (he 0 (by omega)) (he 1 (by omega)) (he 2 (by omega)) (he 3 (by omega)) (he 4 (by omega)) (he 5 (by omega)) (he 6 (by omega)) hl)
  | 8, _ => exact .inr ⟨d8_eq a c a0 a1 c0 c1 (he 0 (by omega)) (he 1 (by omega)) (he 2 (by omega)) (he 3 (by omega)) (he 4 (by omega)) (he 5 (by omega)) (he 6 (by omega)) (he 7 (by omega)), d8_lt0 b d b0 b1 d0 d1  hl⟩
  | 9, _ => exact .inr ⟨d8_eq a c a0 a1 c0 c1 (he 0 (by omega)) (he 1 (by omega)) (he 2 (by omega)) (he 3 (by omega)) (he 4 (by omega)) (he 5 (by omega)) (he 6 (by omega)) (he 7 (by omega)), d8_lt1 b d b0 b1 d0 d1 (he 8 (by omega)) hl⟩
  | 10, _ => exact .inr ⟨d8_eq a c a0 a1 c0 c1 (he 0 (by omega)) (he 1 (by omega)) (he 2 (by omega)) (he 3 (by omega)) (he 4 (by omega)) (he 5 (by omega)) (he 6 (by omega)) (he 7 (by omega)), d8_lt2 b d b0 b1 d0 d1 (he 8 (by omega)) (he 9 (by omega)) hl⟩
  | 11, _ => exact .inr ⟨d8_eq a c a0 a1 c0 c1 (he 0 (by omega)) (he 1 (by omega)) (he 2 (by omega)) (he 3 (by omega)) (he 4 (by omega)) (he 5 (by omega)) (he 6 (by omega)) (he 7 (by omega)), d8_lt3 b d b0 b1 d0 d1 (he 8 (by omega)) (he 9 (by omega)) (he 10 (by omega)) hl⟩
  | 12, _ => exact .inr ⟨d8_eq a c a0 a1 c0 c1 (he 0 (by omega)) (he 1 (by omega)) (he 2 (by omega)) (he 3 (by omega)) (he 4 (by omega)) (he 5 (by omega)) (he 6 (by omega)) (he 7 (by omega)), d8_lt4 b d b0 b1 d0 d1 (he 8 (by omega)) (he 9 (by omega)) (he 10 (by omega)) (he 11 (by omega)) hl⟩
  | 13, _ => exact .inr ⟨d8_eq a c a0 a1 c0 c1 (he 0 (by omega)) (he 1 (by omega)) (he 2 (by omega)) (he 3 (by omega)) (he 4 (by omega)) (he 5 (by omega)) (he 6 (by omega)) (he 7 (by omega)), d8_lt5 b d b0 b1 d0 d1 (he 8 (by omega)) (he 9 (by omega)) (he 10 (by omega)) (he 11 (by omega)) (he 12 (by omega)) hl⟩
  | 14, _ => exact .inr ⟨d8_eq a c a0 a1 c0 c1 (he 0 (by omega)) (he 1 (by omega)) (he 2 (by omega)) (he 3 (by omega)) (he 4 (by omega)) (he 5 (by omega)) (he 6 (by omega)) (he 7 (by omega)), d8_lt6 b d b0 b1 d0 d1 (he 8 (by omega)) (he 9 (by omega)) (he 10 (by omega)) (he 11 (by omega)) (he 12 (by omega)) (he 13 (by omega)) hl⟩
  | 15, _ => exact .inr ⟨d8_eq a c a0 a1 c0 c1 (he 0 (by omega)) (he 1 (by omega)) (he 2 (by omega)) (he 3 (by omega)) (he 4 (by omega)) (he 5 (by omega)) (he 6 (by omega)) (he 7 (by omega)), d8_lt7 b d b0 b1 d0 d1 (he 8 (by omega)) (he 9 (by omega)) (he 10 (by omega)) (he 11 (by omega)) (he 12 (by omega)) (he 13 (by omega)) (he 14 (by omega)) hl⟩
  | k + 16, hk => omega

theorem be_eq (a b c d : Int) (a0 : 0 ≤ a) (a1 : a ≤ 18446744073709551615) (b0 : 0 ≤ b) (b1 : b ≤ 18446744073709551615) (c0 : 0 ≤ c) (c1 : c ≤ 18446744073709551615) (d0 : 0 ≤ d) (d1 : d ≤ 18446744073709551615)
    (he : ∀ j, j < 16 → beD a b j = beD c d j) : a = c ∧ b = d :=
  ⟨d8_eq a c a0 a1 c0 c1 (he 0 (by omega)) (he 1 (by omega)) (he 2 (by omega)) (he 3 (by omega)) (he 4 (by omega)) (he 5 (by omega)) (he 6 (by omega)) (he 7 (by omega)), d8_eq b d b0 b1 d0 d1 (he 8 (by omega)) (he 9 (by omega)) (he 10 (by omega)) (he 11 (by omega)) (he 12 (by omega)) (he 13 (by omega)) (he 14 (by omega)) (he 15 (by omega))⟩

theorem be_says (a b c d : Int) (a0 : 0 ≤ a) (a1 : a ≤ 18446744073709551615) (b0 : 0 ≤ b) (b1 : b ≤ 18446744073709551615) (c0 : 0 ≤ c) (c1 : c ≤ 18446744073709551615) (d0 : 0 ≤ d) (d1 : d ≤ 18446744073709551615)
    (s : Bool) (h : lexSays (beD a b) (beD c d) s) : bf a b c d = s := by
  rcases h with ⟨k, hk, he, hn, rfl⟩ | ⟨he, rfl⟩
  · by_cases hl : beD a b k < beD c d k
    · have := be_lt a b c d a0 a1 b0 b1 c0 c1 d0 d1 k hk he hl
      rw [decide_eq_true hl]; unfold bf; exact decide_eq_true this
    · have := be_lt c d a b c0 c1 d0 d1 a0 a1 b0 b1 k hk (fun j hj => (he j hj).symm) (by omega)
      rw [decide_eq_false hl]; unfold bf; exact decide_eq_false (by omega)
  · obtain ⟨rfl, rfl⟩ := be_eq a b c d a0 a1 b0 b1 c0 c1 d0 d1 he
    unfold bf; exact decide_eq_false (by omega)
end Go.Proofs.Qxb6605259a
