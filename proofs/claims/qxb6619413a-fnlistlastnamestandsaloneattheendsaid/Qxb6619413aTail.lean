/-
  THE WALKS of zzWithTail and prose.List (seat b6619413a).
-/
import Derived.Test.Qxb6619413aGuards
import Derived.Test.Qxb6619413aShelf
import Derived.Deep.OwnRows
import Derived.Deep.RegionWith
namespace Go.Proofs.Qxb6619413a
open Go.RowKit
set_option linter.unusedVariables false
set_option linter.unusedSimpArgs false

theorem info9 : (Try.prog.info? 9).map (fun i => (i.zero, i.size, i.bytes)) = some (some (.string ByteArray.empty), 1, 16) := by kernel_rfl

def strVals (l : List ByteArray) : List Value := l.map Value.string

theorem cell?_alloc_old' {W : World} {a : Addr} {v : Value} (o : Obj) (h : W.cell? a = some v) : (W.alloc o).cell? a = some v :=
  (((Below.refl _ W).alloc (Nat.le_refl _) o).cell (World.block_lt_of_cell? _ _ h)).trans h

theorem take_set (cs : Array Value) (i : Nat) (v : Value) (h : i < cs.size) : (cs.setIfInBounds i v).toList.take (i + 1) = cs.toList.take i ++ [v] := by
  rw [Array.toList_setIfInBounds, List.take_succ_eq_append_getElem (by simpa using h), List.getElem_set_self, List.take_set_of_le (by omega)]

theorem strVals_take (ss : List ByteArray) (i : Nat) (h : i < ss.length) : strVals (ss.take (i + 1)) = strVals (ss.take i) ++ [.string (ss.getD i ByteArray.empty)] := by
  unfold strVals
  rw [List.take_succ_eq_append_getElem h, List.map_append, List.getD_eq_getElem?_getD, List.getElem?_eq_getElem h]
  rfl

theorem make_texts (l : Nat) (hl : l ≤ 65536) : ∃ Z : Array Value, Z.size = l + 1 ∧ ∀ W : World, (Instr.makeSlice 22 (.int .i64 ((l : Int) + 1)) (.int .i64 ((l : Int) + 1))).run Try.prog W = .ok (.slice (some ⟨W.heap.size, 0, none⟩) (l + 1) (l + 1)) (W.alloc (.cells Z 9)) := by
  refine ⟨madeCells #[.string ByteArray.empty] (l + 1), size_madeCells _ _, fun W => ?_⟩
  have h := run_make_row' (P := Try.prog) 22 9 (.string ByteArray.empty) 16 Try.underlying22 info9 rfl .i64 .i64 (l + 1) (by omega) (by omega) W
  rw [show ((l + 1 : Nat) : Int) = (l : Int) + 1 by omega] at h
  exact h

set_option maxHeartbeats 1000000 in
theorem tail_any (p : Option Addr) (l c : Nat) (ss : List ByteArray) (x : ByteArray) (w : World) (hl : l ≤ 65536) (hs : ss.length = l) (hT : TextsIn w p l ss) :
    Calls Try.prog 7 #[.slice p l c, .string x] w fun e w' => e = .returned (.slice (some ⟨w.heap.size, 0, none⟩) (l + 1) (l + 1)) ∧ ∃ cs : Array Value, w' = w.alloc (.cells cs 9) ∧ cs.toList = strVals (ss ++ [x]) := by
  have HT := Lib.hid hT
  have HSL := Lib.hid hs
  obtain ⟨Z, hZs, hmk⟩ := make_texts l hl
  clear hT hs
  go_enter Try.func7, Try.ntmps7
  go_wp2
  go_loopw [6] (fun vi wr => ∃ (i : Nat) (cs : Array Value), i ≤ l ∧ vi = .int .i64 i ∧ wr = w.alloc (.cells cs 9) ∧ cs.size = l + 1 ∧ Hid (cs.toList.take i = strVals (ss.take i))) (fun vi _ => l - (intOf vi).toNat)
  case atStart => exact ⟨0, Z, Nat.zero_le _, rfl, rfl, hZs, by show _ = _; simp [strVals]⟩
  case round =>
    obtain ⟨i, cs, hi, rfl, rfl, hcs, HI⟩ := hrel
    clear hmk hZs
    by_cases hlt : i < l
    · obtain ⟨g, off, rfl, hcells⟩ := HT.out (by omega)
      have hc := cell?_alloc_old' (.cells cs 9) (hcells i hlt)
      have hst := strVals_take ss i (by have := HSL.out; omega)
      obtain ⟨s, hs⟩ : ∃ s, s = ss.getD i ByteArray.empty := ⟨_, rfl⟩
      rw [← hs] at hc hst
      have HST := Lib.hid hst
      obtain ⟨v0, hv0⟩ : ∃ v, cs[i]? = some v := ⟨_, Array.getElem?_eq_getElem (by omega)⟩
      clear hs hcells hst
      go_wp2
      exact ⟨⟨i + 1, _, by omega, by go_num, rfl, by simpa using hcs, Lib.hid (by rw [take_set cs i _ (by omega), HI.out, HST.out])⟩, by simp [intOf]; omega⟩
    · obtain rfl : i = l := by omega
      obtain ⟨v0, hv0⟩ : ∃ v, cs[i]? = some v := ⟨_, Array.getElem?_eq_getElem (by omega)⟩
      have HE := Lib.hid (show (cs.setIfInBounds i (.string x)).toList = strVals (ss ++ [x]) by
        have h1 := take_set cs i (.string x) (by omega)
        rw [List.take_of_length_le (by simp; omega), HI.out, List.take_of_length_le (by have := HSL.out; omega)] at h1
        rw [h1]
        simp [strVals])
      clear HI
      go_wp2
      go_ret
      exact ⟨rfl, _, rfl, HE.out⟩
end Go.Proofs.Qxb6619413a
