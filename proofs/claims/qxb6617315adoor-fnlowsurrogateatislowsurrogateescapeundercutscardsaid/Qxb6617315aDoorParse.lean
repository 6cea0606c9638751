/-
  THE WALK of internal/strconv.ParseUint(s, 16, 16) at a string of at most four bytes, not empty (seat b6617315aD).
-/
import Derived.Test.Qxb6617315aDoorProg
import Derived.Test.Qxb6617315aDoorPlain
import Derived.WalkKit
import Derived.WalkSpells
import Derived.WalkLawsBesides
import Derived.KernelRfl
import Derived.Lib.Strings
import Derived.Lib.Walk
import Derived.Lib.ConvBytes
import Derived.Lib.Hide
import Derived.BigCall
import Derived.BigGuard
namespace Go.Proofs.Qxb6617315aDoor
open Go.RowKit

theorem lower_any (c v : Int) (w : World) (hv : v = bits .or .u8 c 32) : Calls Tryd.prog 13 #[.int .u8 c] w fun e w' => e = .returned (.int .u8 v) ∧ w = w' := by
  subst hv
  go_enter Tryd.func13, Tryd.ntmps13
  go_wp2
  go_ret
  exact ⟨rfl, rfl⟩

/-- What the inner ParseUint hands back. -/
def hexTuple : Option Nat → Value
  | some n => .tuple #[.int .u64 n, .nilIface]
  | none => .tuple #[.int .u64 0, .iface 33 (.int .i64 2)]

set_option maxHeartbeats 4000000 in
set_option maxRecDepth 100000 in
theorem parse_inner (t : ByteArray) (hne : t.size ≠ 0) (hmax : t.size ≤ 4) (w : World) :
    Calls Tryd.prog 11 #[.string t, .int .i64 16, .int .i64 16] w fun e w' => e = .returned (hexTuple (hexp 0 t.data.toList)) ∧ w' = Lib.bytesWorld w 5 t := by
  have hemp : t.toList.isEmpty = false := by
    rw [← decide_eq_emptyBytes]
    exact decide_eq_false (fun h => hne (by rw [h]; rfl))
  have hcv := Lib.run_convert_string_bytes (P := Tryd.prog) w 9 22 5 t (u := .string) Tryd.underlying9 Tryd.underlying22 Tryd.underlying5
  have hB : ∀ j, j < t.size → (Lib.bytesWorld w 5 t).cell? ⟨w.heap.size, j, none⟩ = some (.int .u8 (t.data.toList.getD j 0).toNat) := fun j hj => Lib.bytesWorld_cell w 5 t j hj
  obtain ⟨W1, hW1⟩ : ∃ W1, W1 = Lib.bytesWorld w 5 t := ⟨_, rfl⟩
  rw [← hW1] at hcv hB ⊢
  clear hW1
  obtain ⟨bs, hL⟩ : ∃ bs, bs = t.data.toList := ⟨_, rfl⟩
  have hLn : bs.length = t.size := by rw [hL, Lib.size_eq]
  rw [← hL] at hB ⊢
  clear hL
  have hmv : IntKind.u64.wrap (IntKind.u64.wrap 65536 - 1) = 65535 := by
    rw [IntKind.wrap_u64, IntKind.wrap_u64]
    decide
  go_enter Tryd.func11, Tryd.ntmps11
  go_wp2
  go_loop [12, 13, 101] (fun vu vn vi => ∃ (k acc : Nat) (a : Int), vu = .bool false ∧ vn = .int .u64 a ∧ vi = .int .i64 k ∧ k ≤ t.size ∧ Hid (a = (acc : Int) ∧ acc < 16 ^ k ∧ hexp 0 bs = hexp acc (bs.drop k)))
    (fun _ _ vi => t.size - (intOf vi).toNat)
  case atStart => exact ⟨0, 0, 0, rfl, rfl, rfl, by omega, rfl, by omega, rfl⟩
  case round =>
    obtain ⟨k, acc, a, rfl, rfl, rfl, hk, hh⟩ := hrel
    obtain ⟨ha, hacc, hdec⟩ := hh.out
    clear hh
    by_cases hkn : k < t.size
    · have hpow : 16 ^ k ≤ 16 ^ 3 := Nat.pow_le_pow_right (by omega) (by omega)
      have hpow1 : 16 ^ (k + 1) = 16 ^ k * 16 := Nat.pow_succ ..
      have a0 : 0 ≤ a := by omega
      have a1 : a ≤ 4095 := by omega
      have hc := hB k hkn
      have hdrop : bs.drop k = bs[k]'(by omega) :: bs.drop (k + 1) := List.drop_eq_getElem_cons (by omega)
      have hget : bs.getD k 0 = bs[k]'(by omega) := by simp [List.getD, List.getElem?_eq_getElem (show k < bs.length by omega)]
      rw [hdrop] at hdec
      rw [hget] at hc
      generalize bs[k]'(by omega) = c at hc hdec
      have hc256 : c.toNat < 256 := c.toNat_lt
      clear hB hdrop hget
      obtain ⟨v, hv, v0, v1, hcase⟩ := low_at c
      have HL : Hid (∀ W : World, Calls Tryd.prog 13 #[.int .u8 (c.toNat : Int)] W fun e w' => e = .returned (.int .u8 v) ∧ W = w') := fun W => lower_any (c.toNat : Int) v W hv
      clear hv
      rcases hcase with ⟨h1, h2, hx⟩ | ⟨h1, h95, h2, h3, hx⟩ | ⟨h1, hx, h2, h3⟩ | ⟨h1, hx, h2⟩ | ⟨h1, hx, h2⟩
      · -- A DIGIT
        have hF : hexp acc (c :: bs.drop (k + 1)) = hexp (acc * 16 + (c.toNat - 48)) (bs.drop (k + 1)) := by simp [hexp, hx]
        have HN : Hid (a * 16 + ((c.toNat : Int) - 48) = ((acc * 16 + (c.toNat - 48) : Nat) : Int) ∧ acc * 16 + (c.toNat - 48) < 16 ^ (k + 1) ∧ hexp 0 bs = hexp (acc * 16 + (c.toNat - 48)) (bs.drop (k + 1))) := Lib.hid ⟨by omega, by omega, hdec.trans hF⟩
        clear hF hdec ha hacc hpow hpow1 hx HL v0 v1
        go_wp2
        refine ⟨⟨k + 1, acc * 16 + (c.toNat - 48), a * 16 + ((c.toNat : Int) - 48), rfl, (by first | rfl | (congr 1; omega)), (by first | rfl | (congr 1; omega)), by omega, HN⟩, by simp [intOf]; omega⟩
      · -- A LETTER
        have hF : hexp acc (c :: bs.drop (k + 1)) = hexp (acc * 16 + (v - 87).toNat) (bs.drop (k + 1)) := by simp [hexp, hx]
        have HN : Hid (a * 16 + (v - 97 + 10) = ((acc * 16 + (v - 87).toNat : Nat) : Int) ∧ acc * 16 + (v - 87).toNat < 16 ^ (k + 1) ∧ hexp 0 bs = hexp (acc * 16 + (v - 87).toNat) (bs.drop (k + 1))) := Lib.hid ⟨by omega, by omega, hdec.trans hF⟩
        have hn95 : ((c.toNat : Int) == 95) = false := by simp; omega
        clear hF hdec ha hacc hpow hpow1 hx h95
        go_wp2_with (go_at_call 13; refine (HL.out _).mono ?_; rintro e w' ⟨rfl, rfl⟩)
        all_goals refine ⟨⟨k + 1, acc * 16 + (v - 87).toNat, a * 16 + (v - 97 + 10), rfl, (by first | rfl | (congr 1; omega)), (by first | rfl | (congr 1; omega)), by omega, HN⟩, by simp [intOf]; omega⟩
      all_goals
        have hF : hexp acc (c :: bs.drop (k + 1)) = none := by simp [hexp, hx]
        rw [hF] at hdec
        clear hF ha hacc hpow hpow1 hx
        by_cases h95 : (c.toNat : Int) = 95
        · rw [h95] at hc HL
          clear h95
          go_wp2_with (go_at_call 13; refine (HL.out _).mono ?_; rintro e w' ⟨rfl, rfl⟩)
          all_goals go_ret2
          all_goals first | exact ⟨rfl, rfl⟩ | exact ⟨by rw [hdec]; rfl, rfl⟩
        · have hn95 : ((c.toNat : Int) == 95) = false := by simp; omega
          clear h95
          go_wp2_with (go_at_call 13; refine (HL.out _).mono ?_; rintro e w' ⟨rfl, rfl⟩)
          all_goals go_ret2
          all_goals first | exact ⟨rfl, rfl⟩ | exact ⟨by rw [hdec]; rfl, rfl⟩
    · -- THE BYTES ARE AT AN END
      have hkk : k = t.size := by omega
      subst hkk
      have hF : hexp acc (bs.drop t.size) = some acc := by rw [List.drop_eq_nil_of_le (by omega)]; rfl
      rw [hF] at hdec
      subst ha
      clear hacc hF
      go_wp2
      go_ret2
      exact ⟨rfl, rfl⟩
end Go.Proofs.Qxb6617315aDoor
