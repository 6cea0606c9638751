/-
  THE PLAIN SIDE (seat b6619665aD): the names of the avoidance values, and how one is read back. No Go in sight.
-/
import Derived.Lib.ItoaNum
namespace Go.Proofs.Qxb6619665aDoor

def digs (a : Nat) : List UInt8 :=
  if a < 10 then [UInt8.ofNat (48 + a)]
  else if a < 100 then [UInt8.ofNat (48 + a / 10), UInt8.ofNat (48 + a % 10)]
  else [UInt8.ofNat (48 + a / 10 / 10), UInt8.ofNat (48 + a / 10 % 10), UInt8.ofNat (48 + a % 10)]

theorem itoa_digs (a : Nat) (h : a ≤ 255) : Lib.itoa (a : Int) = digs a := by
  unfold Lib.itoa digs
  rw [if_neg (by omega), Int.toNat_natCast]
  by_cases h1 : a < 10
  · rw [if_pos h1, Lib.decDigits, dif_pos h1]
  · rw [if_neg h1, Lib.decDigits, dif_neg h1]
    by_cases h2 : a < 100
    · rw [if_pos h2, Lib.decDigits, dif_pos (by omega)]
      rfl
    · rw [if_neg h2, Lib.decDigits, dif_neg (by omega), Lib.decDigits, dif_pos (by omega)]
      rfl

/-- The number that the first i digits spell. -/
def valTo (l : List UInt8) : Nat → Nat
  | 0 => 0
  | i + 1 => valTo l i * 10 + ((l.getD i 0).toNat - 48)

def preN : List UInt8 := [97, 118, 111, 105, 100, 97, 110, 99, 101, 40]

def nameL (a : Nat) : List UInt8 := if a = 1 then [99, 108, 115, 110] else if a = 2 then [112, 117, 110, 99] else preN ++ (digs a ++ [41])

def good (a : Nat) : Bool := decide (1 ≤ (digs a).length) && decide ((digs a).length ≤ 3) && (digs a).all (fun d => decide (48 ≤ d.toNat) && decide (d.toNat ≤ 57))
  && (decide ((digs a).length ≤ 1) || decide ((digs a).getD 0 0 ≠ 48)) && decide (valTo (digs a) (digs a).length = a)

theorem good_all : ∀ a : Fin 256, good a.val = true := by decide +kernel

theorem good_at (a : Nat) (h : a ≤ 255) : 1 ≤ (digs a).length ∧ (digs a).length ≤ 3 ∧ (∀ i, i < (digs a).length → 48 ≤ ((digs a).getD i 0).toNat ∧ ((digs a).getD i 0).toNat ≤ 57)
    ∧ (1 < (digs a).length → ((digs a).getD 0 0).toNat ≠ 48) ∧ valTo (digs a) (digs a).length = a := by
  have hg := good_all ⟨a, by omega⟩
  unfold good at hg
  simp only [Bool.and_eq_true, Bool.or_eq_true, decide_eq_true_eq, List.all_eq_true] at hg
  obtain ⟨⟨⟨⟨h1, h2⟩, h3⟩, h4⟩, h5⟩ := hg
  refine ⟨h1, h2, fun i hi => ?_, fun h => ?_, h5⟩
  · rw [List.getD_eq_getElem?_getD, List.getElem?_eq_getElem hi]
    exact h3 _ (List.getElem_mem hi)
  · rcases h4 with h4 | h4
    · omega
    · exact fun e => h4 (UInt8.toNat_inj.1 e)

/-- The way back: one name, one value. -/
def unname (l : List UInt8) : Nat := if l = [99, 108, 115, 110] then 1 else if l = [112, 117, 110, 99] then 2 else valTo ((l.drop 10).dropLast) (l.length - 11)

theorem unname_all : ∀ a : Fin 256, unname (nameL a.val) = a.val := by decide +kernel

theorem nameL_inj {a b : Nat} (ha : a ≤ 255) (hb : b ≤ 255) (h : nameL a = nameL b) : a = b := by
  have h1 := unname_all ⟨a, by omega⟩
  have h2 := unname_all ⟨b, by omega⟩
  simp only at h1 h2
  rw [← h1, ← h2, h]
end Go.Proofs.Qxb6619665aDoor
