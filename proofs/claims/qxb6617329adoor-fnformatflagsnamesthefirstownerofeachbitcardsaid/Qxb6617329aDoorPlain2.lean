/-
  THE PLAIN LAW of seat b6617329aD, second part: lengths, the row of owners, the wanted text.
-/
import Derived.Test.Qxb6617329aDoorPlain
namespace Go.Proofs.Qxb6617329aDoor
open Go.RowKit
set_option linter.unusedVariables false
set_option linter.unusedSimpArgs false

/-! ### lengths -/
def sumTo (ss : List ByteArray) : Nat → Nat
  | 0 => 0
  | i + 1 => sumTo ss i + (ss.getD i ByteArray.empty).size

theorem sumTo_mono (ss : List ByteArray) : ∀ {i j : Nat}, i ≤ j → sumTo ss i ≤ sumTo ss j
  | i, 0, h => by
    obtain rfl : i = 0 := by omega
    exact Nat.le_refl _
  | i, j + 1, h => by
    by_cases e : i = j + 1
    · subst e; exact Nat.le_refl _
    · have := sumTo_mono ss (show i ≤ j by omega)
      simp only [sumTo]
      omega

theorem lens_append (a b : List (List UInt8)) : Lib.lens (a ++ b) = Lib.lens a + Lib.lens b := by simp [Lib.lens]

theorem lens_parts (b : BitVec 64) (xs : List (BitVec 64)) (ss : List ByteArray) : ∀ i, Lib.lens (texts (partsAt b xs ss i)) ≤ sumTo ss i
  | 0 => by simp [partsAt, texts, Lib.lens]
  | i + 1 => by
    have ih := lens_parts b xs ss i
    simp only [sumTo]
    cases ht : takes b xs i with
    | true =>
      rw [partsAt_take b xs ss i ht]
      unfold texts at ih ⊢
      rw [List.map_append, lens_append]
      have e : Lib.lens ([ss.getD i ByteArray.empty].map (·.data.toList)) = (ss.getD i ByteArray.empty).size := by
        unfold Lib.lens
        simp only [List.map_cons, List.map_nil, List.sum_cons, List.sum_nil, Nat.add_zero, Array.length_toList]
        rfl
      rw [e]
      omega
    | false =>
      rw [partsAt_skip b xs ss i ht]
      omega

theorem parts_le (b : BitVec 64) (xs : List (BitVec 64)) (ss : List ByteArray) (i : Nat) : (partsAt b xs ss i).length ≤ i := by
  unfold partsAt
  rw [List.length_map]
  have := List.length_filter_le (takes b xs) (List.range i)
  simpa using this

theorem join_le (l : List (List UInt8)) (sep : List UInt8) (h : sep.length = 1) : (Lib.join l sep).length ≤ l.length + Lib.lens l := by
  cases l with
  | nil => simp [Lib.join_nil]
  | cons x r =>
    rw [Lib.join_length, h, List.length_cons]
    omega

theorem answer_le (b : BitVec 64) (xs : List (BitVec 64)) (ss : List ByteArray) (m : Nat) (hm : m ≤ 65536) (hs : sumTo ss m ≤ 1048576) : (answer b xs ss m).length ≤ 2000000 := by
  have h1 := lens_parts b xs ss m
  have h2 := parts_le b xs ss m
  have h3 : (hex (restAt b xs m).toNat).length ≤ 16 := hexF_length 16 _
  unfold answer allParts
  have ht : (texts (partsAt b xs ss m)).length = (partsAt b xs ss m).length := by simp [texts]
  split
  · have := join_le (texts (partsAt b xs ss m) ++ [[48, 120] ++ hex (restAt b xs m).toNat]) [124] rfl
    rw [lens_append, List.length_append] at this
    have e : Lib.lens [[48, 120] ++ hex (restAt b xs m).toNat] = 2 + (hex (restAt b xs m).toNat).length := by simp [Lib.lens]; omega
    rw [e] at this
    simp only [List.length_singleton] at this
    omega
  · have := join_le (texts (partsAt b xs ss m)) [124] rfl
    omega

/-! ### the row of owners -/
def ownArr (b : BitVec 64) (xs : List (BitVec 64)) (m k : Nat) : Array Value := ((List.range m).map fun j => Value.bool (ownsAt b xs k j)).toArray

theorem ownArr_size (b : BitVec 64) (xs : List (BitVec 64)) (m k : Nat) : (ownArr b xs m k).size = m := by simp [ownArr]

theorem ownArr_at (b : BitVec 64) (xs : List (BitVec 64)) (m k j : Nat) (h : j < m) : (ownArr b xs m k)[j]? = some (.bool (ownsAt b xs k j)) := by
  simp [ownArr, h]

theorem ownArr_congr (b : BitVec 64) (xs : List (BitVec 64)) (m k k' : Nat) (h : ∀ j, j < m → ownsAt b xs k j = ownsAt b xs k' j) : ownArr b xs m k = ownArr b xs m k' := by
  unfold ownArr
  congr 1
  apply List.map_congr_left
  intro j hj
  rw [h j (by simpa using hj)]

theorem first_of_none (xs : List (BitVec 64)) (m k : Nat) (hm : m ≤ xs.length) (h : (orUpto xs m).getLsbD k = false) (j : Nat) (hj : j < m) : isFirst xs k j = false := by
  unfold isFirst
  have : (xs.getD j 0).getLsbD k = false := by
    cases hb : (xs.getD j 0).getLsbD k with
    | false => rfl
    | true =>
      have : (orUpto xs m).getLsbD k = true := (orUpto_bit xs k m hm).2 ⟨j, by omega, hj, by rw [List.getD_eq_getElem?_getD, List.getElem?_eq_getElem (by omega)] at hb; exact hb⟩
      rw [this] at h
      cases h
  rw [this]
  rfl

theorem ownArr_none (b : BitVec 64) (xs : List (BitVec 64)) (m k : Nat) (hm : m ≤ xs.length) (h : (orUpto xs m).getLsbD k = false) : ownArr b xs m (k + 1) = ownArr b xs m k :=
  ownArr_congr b xs m _ _ fun j hj => by rw [ownsAt_succ, first_of_none xs m k hm h j hj]; simp

theorem ownArr_skip (b : BitVec 64) (xs : List (BitVec 64)) (m k : Nat) (h : b.getLsbD k = false) : ownArr b xs m (k + 1) = ownArr b xs m k :=
  ownArr_congr b xs m _ _ fun j hj => ownsAt_skip b xs k j h

theorem ownArr_hit (b : BitVec 64) (xs : List (BitVec 64)) (m k j : Nat) (hm : m ≤ xs.length) (hj : j < m) (hb : b.getLsbD k = true) (hn : (orUpto xs j).getLsbD k = false) (hx : (xs.getD j 0).getLsbD k = true) :
    ownArr b xs m (k + 1) = (ownArr b xs m k).setIfInBounds j (.bool true) := by
  apply Array.ext_getElem?
  intro q
  rw [Array.getElem?_setIfInBounds, ownArr_size]
  by_cases hq : q < m
  · rw [ownArr_at b xs m (k + 1) q hq, ownArr_at b xs m k q hq, ownsAt_succ, hb, Bool.true_and]
    by_cases e : j = q
    · subst e
      have hf : isFirst xs k j = true := by unfold isFirst; rw [hx, hn]; rfl
      rw [if_pos rfl, if_pos hj, hf, Bool.or_true]
    · rw [if_neg e]
      have hf : isFirst xs k q = false := by
        by_cases hlt : q < j
        · exact first_of_none xs j k (by omega) hn q hlt
        · unfold isFirst
          have : (orUpto xs q).getLsbD k = true := (orUpto_bit xs k q (by omega)).2 ⟨j, by omega, by omega, by rw [List.getD_eq_getElem?_getD, List.getElem?_eq_getElem (by omega)] at hx; exact hx⟩
          rw [this]
          simp
      rw [hf, Bool.or_false]
  · rw [Array.getElem?_eq_none (by rw [ownArr_size]; omega)]
    by_cases e : j = q
    · omega
    · rw [if_neg e, Array.getElem?_eq_none (by rw [ownArr_size]; omega)]

theorem covered_hit (b : BitVec 64) (xs : List (BitVec 64)) (m k j : Nat) (hk : k < 64) (hm : m ≤ xs.length) (hj : j < m) (hb : b.getLsbD k = true) (hx : (xs.getD j 0).getLsbD k = true) : coveredAt b xs m (k + 1) = coveredAt b xs m k ||| bitAt k :=
  coveredAt_hit b xs m k hk hb ((orUpto_bit xs k m hm).2 ⟨j, by omega, hj, by rw [List.getD_eq_getElem?_getD, List.getElem?_eq_getElem (by omega)] at hx; exact hx⟩)

theorem orUpto_next (xs : List (BitVec 64)) (k j : Nat) (hj : j < xs.length) (hn : (orUpto xs j).getLsbD k = false) (hx : (xs.getD j 0).getLsbD k = false) : (orUpto xs (j + 1)).getLsbD k = false := by
  rw [List.getD_eq_getElem?_getD, List.getElem?_eq_getElem hj] at hx
  rw [orUpto_succ xs j hj, BitVec.getLsbD_or, hn]
  simpa using hx

/-! ### the wanted text -/
def wantAt (b : BitVec 64) (xs : List (BitVec 64)) (ss : List ByteArray) (j : Nat) : List UInt8 := Lib.join (texts (partsAt b xs ss j)) [124]

theorem wantAt_take (b : BitVec 64) (xs : List (BitVec 64)) (ss : List ByteArray) (j : Nat) (ht : takes b xs j = true) :
    wantAt b xs ss (j + 1) = wantAt b xs ss j ++ ((if partsAt b xs ss j = [] then [] else [124]) ++ (ss.getD j ByteArray.empty).data.toList) := by
  unfold wantAt
  rw [partsAt_take b xs ss j ht]
  unfold texts
  rw [List.map_append, List.map_cons, List.map_nil, join_snoc]
  by_cases h : partsAt b xs ss j = []
  · rw [h]
    simp [Lib.join_nil]
  · rw [if_neg (by simpa using h), if_neg h]

theorem wantAt_skip (b : BitVec 64) (xs : List (BitVec 64)) (ss : List ByteArray) (j : Nat) (ht : takes b xs j = false) : wantAt b xs ss (j + 1) = wantAt b xs ss j := by
  unfold wantAt
  rw [partsAt_skip b xs ss j ht]

theorem wantAt_le (b : BitVec 64) (xs : List (BitVec 64)) (ss : List ByteArray) (j m : Nat) (hj : j ≤ m) (hm : m ≤ 65536) (hs : sumTo ss m ≤ 1048576) : (wantAt b xs ss j).length ≤ 2000000 := by
  have h1 := lens_parts b xs ss j
  have h2 := parts_le b xs ss j
  have h3 := sumTo_mono ss hj
  have ht : (texts (partsAt b xs ss j)).length = (partsAt b xs ss j).length := by simp [texts]
  have := join_le (texts (partsAt b xs ss j)) [124] rfl
  unfold wantAt
  omega

theorem answer_full (b : BitVec 64) (xs : List (BitVec 64)) (ss : List ByteArray) (m : Nat) (h : restAt b xs m ≠ 0 ∨ partsAt b xs ss m = []) :
    answer b xs ss m = wantAt b xs ss m ++ ((if partsAt b xs ss m = [] then [] else [124]) ++ ([48, 120] ++ hex (restAt b xs m).toNat)) := by
  unfold answer allParts wantAt
  rw [if_pos h, join_snoc]
  by_cases e : partsAt b xs ss m = []
  · rw [e]
    simp [texts, Lib.join_nil]
  · rw [if_neg (by simpa [texts] using e), if_neg e]

theorem answer_bare (b : BitVec 64) (xs : List (BitVec 64)) (ss : List ByteArray) (m : Nat) (h : ¬ (restAt b xs m ≠ 0 ∨ partsAt b xs ss m = [])) : answer b xs ss m = wantAt b xs ss m := by
  unfold answer allParts wantAt
  rw [if_neg h]
end Go.Proofs.Qxb6617329aDoor
