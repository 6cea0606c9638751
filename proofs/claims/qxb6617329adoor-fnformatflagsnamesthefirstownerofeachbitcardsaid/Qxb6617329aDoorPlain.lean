/-
  THE PLAIN LAW of seat b6617329aD: no Go in sight: which entries own a set bit; the leftover; hexadecimal numerals; the joined text.
-/
import Derived.WalkKit
import Derived.Lib.Join
namespace Go.Proofs.Qxb6617329aDoor
open Go.RowKit
set_option linter.unusedVariables false
set_option linter.unusedSimpArgs false

/-! ### hexadecimal -/
/-- A hex digit's byte. -/
def dig (d : Nat) : Nat := if d < 10 then 48 + d else 87 + d

/-- The numeral of u, 'f' digits at most. -/
def hexF : Nat → Nat → List UInt8
  | 0, _ => []
  | f + 1, u => if u < 16 then [UInt8.ofNat (dig u)] else hexF f (u / 16) ++ [UInt8.ofNat (dig (u % 16))]

def hex (u : Nat) : List UInt8 := hexF 16 u

theorem hexF_length : ∀ (f u : Nat), (hexF f u).length ≤ f
  | 0, _ => by simp [hexF]
  | f + 1, u => by
    unfold hexF
    split
    · simp
    · have := hexF_length f (u / 16)
      simp
      omega

/-! ### the entries -/
/-- The masks of the first i entries, joined. -/
def orUpto (xs : List (BitVec 64)) (i : Nat) : BitVec 64 := (xs.take i).foldl (· ||| ·) 0

theorem orUpto_succ (xs : List (BitVec 64)) (i : Nat) (h : i < xs.length) : orUpto xs (i + 1) = orUpto xs i ||| xs[i] := by
  unfold orUpto
  rw [List.take_succ_eq_append_getElem h, List.foldl_append]
  rfl

theorem orUpto_bit (xs : List (BitVec 64)) (k : Nat) : ∀ i, i ≤ xs.length → ((orUpto xs i).getLsbD k = true ↔ ∃ j, ∃ h : j < xs.length, j < i ∧ xs[j].getLsbD k = true)
  | 0, _ => by simp [orUpto]
  | i + 1, h => by
    rw [orUpto_succ xs i (by omega), BitVec.getLsbD_or, Bool.or_eq_true, orUpto_bit xs k i (by omega)]
    constructor
    · rintro (⟨j, hj, h1, h2⟩ | h1)
      · exact ⟨j, hj, by omega, h2⟩
      · exact ⟨i, by omega, by omega, h1⟩
    · rintro ⟨j, hj, h1, h2⟩
      by_cases e : j = i
      · subst e; exact .inr h2
      · exact .inl ⟨j, hj, by omega, h2⟩

/-- What is left of the bits behind the first i entries. -/
def restAt (b : BitVec 64) (xs : List (BitVec 64)) (i : Nat) : BitVec 64 := b &&& ~~~ orUpto xs i

/-- Entry i is listed. -/
def takes (b : BitVec 64) (xs : List (BitVec 64)) (i : Nat) : Bool := (restAt b xs i &&& xs.getD i 0) != 0

/-- The texts that are listed among the first i entries. -/
def partsAt (b : BitVec 64) (xs : List (BitVec 64)) (ss : List ByteArray) (i : Nat) : List ByteArray := ((List.range i).filter (takes b xs)).map fun j => ss.getD j ByteArray.empty

theorem restAt_zero (b : BitVec 64) (xs : List (BitVec 64)) : restAt b xs 0 = b := by
  show b &&& ~~~ (0#64) = b
  apply BitVec.eq_of_getLsbD_eq
  intro q hq
  simp only [BitVec.getLsbD_and, BitVec.getLsbD_not, hq, decide_true, Bool.true_and, BitVec.getLsbD_zero, Bool.not_false, Bool.and_true]

theorem restAt_succ (b : BitVec 64) (xs : List (BitVec 64)) (i : Nat) (h : i < xs.length) : restAt b xs (i + 1) = restAt b xs i &&& ~~~ xs[i] := by
  unfold restAt
  rw [orUpto_succ xs i h]
  ext k hk
  simp
  cases b[k] <;> cases (orUpto xs i)[k] <;> simp

theorem restAt_skip (b : BitVec 64) (xs : List (BitVec 64)) (i : Nat) (h : i < xs.length) (ht : takes b xs i = false) : restAt b xs (i + 1) = restAt b xs i := by
  rw [restAt_succ b xs i h]
  have e : restAt b xs i &&& xs[i] = 0 := by
    have := ht
    unfold takes at this
    rw [List.getD_eq_getElem?_getD, List.getElem?_eq_getElem h] at this
    simpa using this
  ext k hk
  have := congrArg (fun v : BitVec 64 => v[k]) e
  simp at this
  simp
  cases h1 : (restAt b xs i)[k] <;> simp_all

theorem partsAt_zero (b : BitVec 64) (xs : List (BitVec 64)) (ss : List ByteArray) : partsAt b xs ss 0 = [] := rfl
theorem partsAt_take (b : BitVec 64) (xs : List (BitVec 64)) (ss : List ByteArray) (i : Nat) (ht : takes b xs i = true) : partsAt b xs ss (i + 1) = partsAt b xs ss i ++ [ss.getD i ByteArray.empty] := by
  unfold partsAt
  rw [List.range_succ, List.filter_append, List.map_append]
  simp [ht]
theorem partsAt_skip (b : BitVec 64) (xs : List (BitVec 64)) (ss : List ByteArray) (i : Nat) (ht : takes b xs i = false) : partsAt b xs ss (i + 1) = partsAt b xs ss i := by
  unfold partsAt
  rw [List.range_succ, List.filter_append, List.map_append]
  simp [ht]

/-! ### the owners, bit by bit -/
/-- Entry j is the first whose mask has bit k. -/
def isFirst (xs : List (BitVec 64)) (k j : Nat) : Bool := (xs.getD j 0).getLsbD k && !(orUpto xs j).getLsbD k

/-- Entry j owns one of the first k bits. -/
def ownsAt (b : BitVec 64) (xs : List (BitVec 64)) (k j : Nat) : Bool := (List.range k).any fun q => b.getLsbD q && isFirst xs q j

/-- Which of the first k bits are owned. -/
def coveredAt (b : BitVec 64) (xs : List (BitVec 64)) (m k : Nat) : BitVec 64 := b &&& orUpto xs m &&& BitVec.ofNat 64 (2 ^ k - 1)

theorem ownsAt_succ (b : BitVec 64) (xs : List (BitVec 64)) (k j : Nat) : ownsAt b xs (k + 1) j = (ownsAt b xs k j || (b.getLsbD k && isFirst xs k j)) := by
  unfold ownsAt
  rw [List.range_succ, List.any_append]
  simp

theorem mask_bit (k q : Nat) (hk : k ≤ 64) (hq : q < 64) : (BitVec.ofNat 64 (2 ^ k - 1)).getLsbD q = decide (q < k) := by
  rw [BitVec.getLsbD_ofNat]
  simp [hq, Nat.testBit_two_pow_sub_one]

theorem owns_takes (b : BitVec 64) (xs : List (BitVec 64)) (j : Nat) (hj : j < xs.length) : ownsAt b xs 64 j = takes b xs j := by
  rw [Bool.eq_iff_iff]
  unfold ownsAt takes isFirst
  rw [List.any_eq_true]
  constructor
  · rintro ⟨q, hq, h⟩
    have hq64 : q < 64 := by simpa using hq
    rw [Bool.and_eq_true, Bool.and_eq_true] at h
    obtain ⟨h1, h2, h3⟩ := h
    rw [bne_iff_ne]
    intro e
    have := congrArg (fun v : BitVec 64 => v.getLsbD q) e
    simp only [restAt, BitVec.getLsbD_and, BitVec.getLsbD_not, hq64, decide_true, Bool.true_and] at this
    rw [h1, h2, h3] at this
    simp at this
  · intro h
    rw [bne_iff_ne] at h
    by_cases hex : ∃ q, q < 64 ∧ (restAt b xs j &&& xs.getD j 0).getLsbD q = true
    · obtain ⟨q, hq, h1⟩ := hex
      refine ⟨q, by simpa using hq, ?_⟩
      simp only [restAt, BitVec.getLsbD_and, BitVec.getLsbD_not, hq, decide_true, Bool.true_and] at h1
      simp only [Bool.and_eq_true] at h1 ⊢
      exact ⟨h1.1.1, h1.2, h1.1.2⟩
    · exfalso
      apply h
      apply BitVec.eq_of_getLsbD_eq
      intro q hq
      have : ¬ (restAt b xs j &&& xs.getD j 0).getLsbD q = true := fun e => hex ⟨q, hq, e⟩
      simpa using this

theorem leftover_eq (b : BitVec 64) (xs : List (BitVec 64)) (m : Nat) : b &&& ~~~ coveredAt b xs m 64 = restAt b xs m := by
  apply BitVec.eq_of_getLsbD_eq
  intro q hq
  simp only [coveredAt, restAt, BitVec.getLsbD_and, BitVec.getLsbD_not, hq, decide_true, Bool.true_and, mask_bit 64 q (by omega) hq, Bool.and_true]
  cases b.getLsbD q <;> simp

/-! ### the model's operations on uint64 -/
theorem vec_of (x : BitVec 64) : BitVec.ofInt 64 (x.toNat : Int) = x := by
  apply BitVec.eq_of_toNat_eq
  rw [ofInt_u64 _ x.isLt]

theorem and_vec (x y : BitVec 64) : bits .and .u64 (x.toNat : Int) (y.toNat : Int) = ((x &&& y).toNat : Int) := by
  rw [u64_and_nat _ _ x.isLt y.isLt, BitVec.toNat_and]
theorem or_vec (x y : BitVec 64) : bits .or .u64 (x.toNat : Int) (y.toNat : Int) = ((x ||| y).toNat : Int) := by
  rw [u64_or_nat _ _ x.isLt y.isLt, BitVec.toNat_or]
theorem andNot_vec (x y : BitVec 64) : bits .andNot .u64 (x.toNat : Int) (y.toNat : Int) = ((x &&& ~~~ y).toNat : Int) := by
  rw [u64_andNot_nat _ _ x.isLt y.isLt, BitVec.toNat_and, BitVec.toNat_not]

/-- bit k alone. -/
def bitAt (k : Nat) : BitVec 64 := BitVec.ofNat 64 (2 ^ k)

theorem bitAt_nat (k : Nat) (h : k < 64) : (bitAt k).toNat = 2 ^ k := by
  unfold bitAt
  rw [BitVec.toNat_ofNat]
  exact Nat.mod_eq_of_lt (Nat.pow_lt_pow_right (by omega) h)

theorem bitAt_bit (k q : Nat) (h : k < 64) : (bitAt k).getLsbD q = decide (q = k) := by
  rw [← BitVec.testBit_toNat, bitAt_nat k h, Nat.testBit_two_pow]
  simp [eq_comm]

theorem and_bit (x : BitVec 64) (k : Nat) (h : k < 64) : (x &&& bitAt k = 0) ↔ x.getLsbD k = false := by
  constructor
  · intro e
    have := congrArg (fun v : BitVec 64 => v.getLsbD k) e
    simpa [bitAt_bit k k h] using this
  · intro e
    apply BitVec.eq_of_getLsbD_eq
    intro q hq
    rw [BitVec.getLsbD_and, bitAt_bit k q h]
    by_cases hk : q = k
    · subst hk; simp [e]
    · simp [hk]

/-- the covered bits, one bit on. -/
theorem coveredAt_zero (b : BitVec 64) (xs : List (BitVec 64)) (m : Nat) : coveredAt b xs m 0 = 0 := by simp [coveredAt]
theorem coveredAt_hit (b : BitVec 64) (xs : List (BitVec 64)) (m k : Nat) (hk : k < 64) (hb : b.getLsbD k = true) (ho : (orUpto xs m).getLsbD k = true) : coveredAt b xs m (k + 1) = coveredAt b xs m k ||| bitAt k := by
  apply BitVec.eq_of_getLsbD_eq
  intro q hq
  simp only [coveredAt, BitVec.getLsbD_and, BitVec.getLsbD_or, mask_bit _ q (show k + 1 ≤ 64 by omega) hq, mask_bit _ q (show k ≤ 64 by omega) hq, bitAt_bit k q hk]
  by_cases e : q = k
  · subst e; simp [hb, ho]
  · have : decide (q < k + 1) = decide (q < k) := decide_eq_decide.2 (by omega)
    simp [e, this]
theorem coveredAt_miss (b : BitVec 64) (xs : List (BitVec 64)) (m k : Nat) (hk : k < 64) (h : b.getLsbD k = false ∨ (orUpto xs m).getLsbD k = false) : coveredAt b xs m (k + 1) = coveredAt b xs m k := by
  apply BitVec.eq_of_getLsbD_eq
  intro q hq
  simp only [coveredAt, BitVec.getLsbD_and, mask_bit _ q (show k + 1 ≤ 64 by omega) hq, mask_bit _ q (show k ≤ 64 by omega) hq]
  by_cases e : q = k
  · subst e
    rcases h with h | h <;> simp [h]
  · have : decide (q < k + 1) = decide (q < k) := decide_eq_decide.2 (by omega)
    rw [this]

theorem ownsAt_zero (b : BitVec 64) (xs : List (BitVec 64)) (j : Nat) : ownsAt b xs 0 j = false := rfl
theorem ownsAt_skip (b : BitVec 64) (xs : List (BitVec 64)) (k j : Nat) (h : b.getLsbD k = false) : ownsAt b xs (k + 1) j = ownsAt b xs k j := by
  rw [ownsAt_succ, h]; simp

/-! ### the text -/
theorem join_snoc (xs : List (List UInt8)) (y sep : List UInt8) : Lib.join (xs ++ [y]) sep = if xs = [] then y else Lib.join xs sep ++ (sep ++ y) := by
  cases xs with
  | nil => simp [Lib.join_one]
  | cons x r =>
    rw [if_neg (by simp), List.cons_append, Lib.join_cons, Lib.join_cons]
    simp [Lib.joinTail]

/-- The texts' bytes. -/
def texts (l : List ByteArray) : List (List UInt8) := l.map (·.data.toList)

/-- The parts that formatFlags joins. -/
def allParts (b : BitVec 64) (xs : List (BitVec 64)) (ss : List ByteArray) (m : Nat) : List (List UInt8) :=
  if restAt b xs m ≠ 0 ∨ partsAt b xs ss m = [] then texts (partsAt b xs ss m) ++ [[48, 120] ++ hex (restAt b xs m).toNat] else texts (partsAt b xs ss m)

/-- What formatFlags answers. -/
def answer (b : BitVec 64) (xs : List (BitVec 64)) (ss : List ByteArray) (m : Nat) : List UInt8 := Lib.join (allParts b xs ss m) [124]
end Go.Proofs.Qxb6617329aDoor
