/-
  THE PLAIN LAW of seat b6617315aD: lowSurrogateAt says what isLowSurrogateEscape says; the two cuts.
-/
import Derived.Test.Qxb6617315aDoorEsc
namespace Go.Proofs.Qxb6617315aDoor
open Go.RowKit
set_option linter.unusedVariables false

theorem hexd_parts (y : Int) (h0 : 0 ≤ y) (h1 : y ≤ 255) :
    (∃ d, hexd (UInt8.ofNat y.toNat).toNat = some d ∧ d < 16 ∧ (d = 13 ↔ (y = 100 ∨ y = 68)) ∧ (12 ≤ d ↔ ((99 ≤ y ∧ y ≤ 102) ∨ (67 ≤ y ∧ y ≤ 70))) ∧ hexB y = true) ∨
    (hexd (UInt8.ofNat y.toNat).toNat = none ∧ hexB y = false ∧ ¬ (y = 100 ∨ y = 68) ∧ ¬ ((99 ≤ y ∧ y ≤ 102) ∨ (67 ≤ y ∧ y ≤ 70))) := by
  have e : (UInt8.ofNat y.toNat).toNat = y.toNat := by
    rw [UInt8.toNat_ofNat']
    omega
  rw [e]
  by_cases c1 : 48 ≤ y ∧ y ≤ 57
  · refine .inl ⟨y.toNat - 48, by unfold hexd; rw [if_pos (by omega)], by omega, by omega, by omega, by simp [hexB]; omega⟩
  · by_cases c2 : 97 ≤ y ∧ y ≤ 102
    · refine .inl ⟨y.toNat - 87, by unfold hexd; rw [if_neg (by omega), if_pos (by omega)], by omega, by omega, by omega, by simp [hexB]; omega⟩
    · by_cases c3 : 65 ≤ y ∧ y ≤ 70
      · refine .inl ⟨y.toNat - 55, by unfold hexd; rw [if_neg (by omega), if_neg (by omega), if_pos (by omega)], by omega, by omega, by omega, by simp [hexB]; omega⟩
      · refine .inr ⟨by unfold hexd; rw [if_neg (by omega), if_neg (by omega), if_neg (by omega)], by simp [hexB]; omega, by omega, by omega⟩

theorem rune_four (y2 y3 y4 y5 : Int) : rune4 [y2, y3, y4, y5] = hexN (hexp 0 [UInt8.ofNat y2.toNat, UInt8.ofNat y3.toNat, UInt8.ofNat y4.toNat, UInt8.ofNat y5.toNat]) := rfl

theorem num_iff (a b c d : Nat) (ha : a < 16) (hb : b < 16) (hc : c < 16) (hd : d < 16) :
    (56320 ≤ (((0 * 16 + a) * 16 + b) * 16 + c) * 16 + d ∧ (((0 * 16 + a) * 16 + b) * 16 + c) * 16 + d ≤ 57343) ↔ (a = 13 ∧ 12 ≤ b) := by omega

theorem low_eq_esc (y0 y1 y2 y3 y4 y5 : Int) (b2 : 0 ≤ y2 ∧ y2 ≤ 255) (b3 : 0 ≤ y3 ∧ y3 ≤ 255) (b4 : 0 ≤ y4 ∧ y4 ≤ 255) (b5 : 0 ≤ y5 ∧ y5 ≤ 255) :
    lowB [y0, y1, y2, y3, y4, y5] = escB [y0, y1, y2, y3, y4, y5] := by
  have e1 : lowB [y0, y1, y2, y3, y4, y5] = (y0 == 92 && (y1 == 117 && decide (56320 ≤ rune4 [y2, y3, y4, y5] ∧ rune4 [y2, y3, y4, y5] ≤ 57343))) := rfl
  rw [e1, esc_split, rune_four]
  unfold hexp hexp hexp hexp hexp
  rcases hexd_parts y2 b2.1 b2.2 with ⟨d2, h2, l2, p2, q2, r2⟩ | ⟨h2, r2, p2, q2⟩
  · rw [h2]
    rcases hexd_parts y3 b3.1 b3.2 with ⟨d3, h3, l3, p3, q3, r3⟩ | ⟨h3, r3, p3, q3⟩
    · rw [h3]
      rcases hexd_parts y4 b4.1 b4.2 with ⟨d4, h4, l4, p4, q4, r4⟩ | ⟨h4, r4, p4, q4⟩
      · rw [h4, r4]
        rcases hexd_parts y5 b5.1 b5.2 with ⟨d5, h5, l5, p5, q5, r5⟩ | ⟨h5, r5, p5, q5⟩
        · rw [h5, r5]
          have hN := num_iff d2 d3 d4 d5 l2 l3 l4 l5
          show (y0 == 92 && (y1 == 117 && decide (56320 ≤ (((0 * 16 + d2) * 16 + d3) * 16 + d4) * 16 + d5 ∧ (((0 * 16 + d2) * 16 + d3) * 16 + d4) * 16 + d5 ≤ 57343))) = _
          have hD : decide (56320 ≤ (((0 * 16 + d2) * 16 + d3) * 16 + d4) * 16 + d5 ∧ (((0 * 16 + d2) * 16 + d3) * 16 + d4) * 16 + d5 ≤ 57343) = decide ((y2 = 100 ∨ y2 = 68) ∧ ((99 ≤ y3 ∧ y3 ≤ 102) ∨ (67 ≤ y3 ∧ y3 ≤ 70))) := decide_eq_decide.2 (hN.trans (and_congr p2 q3))
          rw [hD]
          by_cases e0 : y0 = 92 <;> by_cases e1 : y1 = 117 <;> simp [e0, e1]
        · rw [h5, r5]
          simp [hexN]
      · rw [h4, r4]
        simp [hexN]
    · rw [h3, Bool.eq_iff_iff]
      simp [hexN]
      omega
  · rw [h2, Bool.eq_iff_iff]
    simp [hexN]
    omega

/-- What isLowSurrogateEscape says of a row of bytes. -/
def escAt (xs : List Int) (n : Nat) : Bool := if n + 6 ≤ xs.length then escB (six xs n) else false

theorem lowAt_eq (xs : List Int) (n : Nat) (hb : ∀ i, 0 ≤ xs.getD i 0 ∧ xs.getD i 0 ≤ 255) : lowAt xs n = escAt xs n := by
  unfold lowAt escAt six
  rw [low_eq_esc _ _ _ _ _ _ (hb _) (hb _) (hb _) (hb _)]

theorem lowAt_drop (xs : List Int) (n k : Nat) (hk : k ≤ n) (hl : k ≤ xs.length) : lowAt (xs.drop k) (n - k) = lowAt xs n := by
  have e : ∀ j, (xs.drop k).getD (n - k + j) 0 = xs.getD (n + j) 0 := fun j => by
    rw [List.getD_eq_getElem?_getD, List.getD_eq_getElem?_getD, List.getElem?_drop, show k + (n - k + j) = n + j by omega]
  have e0 : (xs.drop k).getD (n - k) 0 = xs.getD n 0 := e 0
  unfold lowAt six
  rw [e, e, e, e, e, e0, List.length_drop]
  by_cases h : n + 6 ≤ xs.length
  · rw [if_pos h, if_pos (by omega)]
  · rw [if_neg h, if_neg (by omega)]

theorem lowAt_take (xs : List Int) (n m : Nat) (hm : m ≤ xs.length) : lowAt (xs.take m) n = (lowAt xs n && decide (n + 6 ≤ m)) := by
  unfold lowAt six
  rw [List.length_take, Nat.min_eq_left hm]
  by_cases h : n + 6 ≤ m
  · have e : ∀ j, j < 6 → (xs.take m).getD (n + j) 0 = xs.getD (n + j) 0 := fun j hj => by
      rw [List.getD_eq_getElem?_getD, List.getD_eq_getElem?_getD, List.getElem?_take_of_lt (by omega)]
    have e0 : (xs.take m).getD n 0 = xs.getD n 0 := e 0 (by omega)
    rw [if_pos h, if_pos (by omega), e0, e 1 (by omega), e 2 (by omega), e 3 (by omega), e 4 (by omega), e 5 (by omega)]
    simp [h]
  · rw [if_neg h]
    simp [h]
end Go.Proofs.Qxb6617315aDoor
