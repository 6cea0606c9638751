/-
  THE WALK of the law FnAvoidanceStringIsReadBackExactly (seat b6619665aD).
-/
import Derived.Test.Qxb6619665aDoorRead
namespace Go.Proofs.Qxb6619665aDoor
open Go.RowKit
set_option linter.unusedVariables false
set_option linter.unusedSimpArgs false

theorem names_eq (a b : Nat) (ha : a ≤ 255) (hb : b ≤ 255) : ((nameOf a).toList == (nameOf b).toList) = ((a : Int) == (b : Int)) := by
  have e : ∀ x, (nameOf x).toList = nameL x := fun x => by unfold nameOf; exact ByteArray.toList_mk _
  rw [e, e]
  by_cases h : a = b
  · subst h
    simp
  · rw [beq_eq_false_iff_ne.2 fun e => h (nameL_inj ha hb e), beq_eq_false_iff_ne.2 (by omega)]

set_option maxHeartbeats 1000000 in
theorem law_any (a b : Nat) (w : World) (ha : a ≤ 255) (hb : b ≤ 255) (hT : Tab w) :
    Calls Tryd.prog 3 #[.int .u8 a, .int .u8 b] w fun e w' => e = .returned (.bool true) ∧ Below w.heap.size w w' := by
  have HA := Lib.hid (zzstring_any a w ha hT)
  have HB := Lib.hid (fun (W : World) (h : Below w.heap.size w W) => zzstring_any b W hb (hT.later h))
  have HRA := Lib.hid (fun W : World => read_any a W ha)
  have HRB := Lib.hid (fun W : World => read_any b W hb)
  have hE := names_eq a b ha hb
  obtain ⟨s, hs⟩ : ∃ s, s = nameOf a := ⟨_, rfl⟩
  obtain ⟨t, ht⟩ : ∃ t, t = nameOf b := ⟨_, rfl⟩
  rw [← hs] at HA HRA hE
  rw [← ht] at HB HRB hE
  clear hs ht hT
  go_enter Tryd.func3, Tryd.ntmps3
  go_wp2_with fail
  refine HA.out.mono ?_
  rintro e W1 ⟨rfl, hB1⟩
  have HB1 := Lib.hid hB1
  clear hB1
  go_wp2_with fail
  refine (HB.out W1 HB1.out).mono ?_
  rintro e W2 ⟨rfl, hB2⟩
  have HB2 := Lib.hid (HB1.out.trans (hB2.mono HB1.out.size))
  clear hB2
  go_wp2_with fail
  refine (HRA.out _).mono ?_
  rintro e W3 ⟨rfl, rfl⟩
  go_wp2_with fail
  refine (HRB.out _).mono ?_
  rintro e W3 ⟨rfl, rfl⟩
  go_wp2_with fail
  go_ret
  exact ⟨by first | rfl | (rw [hE]; simp), HB2.out⟩
end Go.Proofs.Qxb6619665aDoor
