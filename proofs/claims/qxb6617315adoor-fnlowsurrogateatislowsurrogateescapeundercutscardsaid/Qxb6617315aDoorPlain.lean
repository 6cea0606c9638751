/-
  THE PLAIN LAW of seat b6617315aD: no Go in sight: hex digits, the reading of a row of hex digits.
-/
import Derived.WalkKit
namespace Go.Proofs.Qxb6617315aDoor
open Go.RowKit

/-- The value of a hex digit. -/
def hexd (c : Nat) : Option Nat :=
  if 48 ≤ c ∧ c ≤ 57 then some (c - 48) else if 97 ≤ c ∧ c ≤ 102 then some (c - 87) else if 65 ≤ c ∧ c ≤ 70 then some (c - 55) else none

/-- A row of hex digits, read behind 'acc'. -/
def hexp : Nat → List UInt8 → Option Nat
  | acc, [] => some acc
  | acc, c :: r => match hexd c.toNat with
    | none => none
    | some d => hexp (acc * 16 + d) r

theorem hexd_lt {c d : Nat} (h : hexd c = some d) : d < 16 := by
  unfold hexd at h
  split at h
  · simp at h; omega
  · split at h
    · simp at h; omega
    · split at h
      · simp at h; omega
      · simp at h

/-- What 'c | 32' says of a byte: which bytes it makes a lower-case hex letter, and the letter's value. -/
theorem low_cases : ∀ c : Fin 256,
    (48 ≤ c.val ∧ c.val ≤ 57) ∨
    (¬ (48 ≤ c.val ∧ c.val ≤ 57) ∧ c.val ≠ 95 ∧ 97 ≤ bits .or .u8 (c.val : Int) 32 ∧ bits .or .u8 (c.val : Int) 32 ≤ 102 ∧ hexd c.val = some (bits .or .u8 (c.val : Int) 32 - 87).toNat) ∨
    (¬ (48 ≤ c.val ∧ c.val ≤ 57) ∧ hexd c.val = none ∧ 103 ≤ bits .or .u8 (c.val : Int) 32 ∧ bits .or .u8 (c.val : Int) 32 ≤ 122) ∨
    (¬ (48 ≤ c.val ∧ c.val ≤ 57) ∧ hexd c.val = none ∧ bits .or .u8 (c.val : Int) 32 < 97) ∨
    (¬ (48 ≤ c.val ∧ c.val ≤ 57) ∧ hexd c.val = none ∧ 122 < bits .or .u8 (c.val : Int) 32) := by
  decide +kernel

/-- The same at a byte, 'c | 32' under a name. -/
theorem low_at (c : UInt8) : ∃ v : Int, v = bits .or .u8 (c.toNat : Int) 32 ∧ 0 ≤ v ∧ v ≤ 255 ∧ (
    (48 ≤ c.toNat ∧ c.toNat ≤ 57 ∧ hexd c.toNat = some (c.toNat - 48)) ∨
    (¬ (48 ≤ c.toNat ∧ c.toNat ≤ 57) ∧ c.toNat ≠ 95 ∧ 97 ≤ v ∧ v ≤ 102 ∧ hexd c.toNat = some (v - 87).toNat) ∨
    (¬ (48 ≤ c.toNat ∧ c.toNat ≤ 57) ∧ hexd c.toNat = none ∧ 103 ≤ v ∧ v ≤ 122) ∨
    (¬ (48 ≤ c.toNat ∧ c.toNat ≤ 57) ∧ hexd c.toNat = none ∧ v < 97) ∨
    (¬ (48 ≤ c.toNat ∧ c.toNat ≤ 57) ∧ hexd c.toNat = none ∧ 122 < v)) := by
  refine ⟨_, rfl, bits_lo_u8 _ _ _, bits_hi_u8 _ _ _, ?_⟩
  rcases low_cases ⟨c.toNat, c.toNat_lt⟩ with h | h
  · exact .inl ⟨h.1, h.2, by unfold hexd; rw [if_pos h]⟩
  · exact .inr h
end Go.Proofs.Qxb6617315aDoor
