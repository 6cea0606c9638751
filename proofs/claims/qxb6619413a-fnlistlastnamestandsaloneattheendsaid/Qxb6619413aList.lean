/-
  THE WALK of prose.List (seat b6619413a).
-/
import Derived.Test.Qxb6619413aTail
namespace Go.Proofs.Qxb6619413a
open Go.RowKit
set_option linter.unusedVariables false
set_option linter.unusedSimpArgs false

/-- What stands before the last name. -/
def preB (ss : List ByteArray) : List UInt8 := if ss = [] then [] else Lib.join (ss.map (·.data.toList)) [44, 32] ++ [32, 97, 110, 100, 32]

def CellsAt (W : World) (g : Nat) (l : List ByteArray) : Prop := ∀ (j : Nat) x, l[j]? = some x → W.cell? ⟨g, j, none⟩ = some (.string x)

theorem ba_append (a b : List UInt8) : (⟨a.toArray⟩ : ByteArray) ++ (⟨b.toArray⟩ : ByteArray) = ⟨(a ++ b).toArray⟩ := by
  apply ByteArray.ext
  simp
theorem ba_eta (x : ByteArray) : (⟨x.data.toList.toArray⟩ : ByteArray) = x := by
  apply ByteArray.ext
  simp
theorem ba_size (l : List UInt8) : (⟨l.toArray⟩ : ByteArray).size = l.length := by simp [ByteArray.size]

theorem list_one (g : Nat) (x : ByteArray) (W : World) (hc : CellsAt W g [x]) :
    Calls Try.prog 6 #[.slice (some ⟨g, 0, none⟩) 1 1] W fun e w' => e = .returned (.string ⟨(preB [] ++ x.data.toList).toArray⟩) ∧ Below W.heap.size W w' := by
  have h0 := hc 0 x rfl
  have e : (⟨(preB [] ++ x.data.toList).toArray⟩ : ByteArray) = x := by
    show (⟨([] ++ x.data.toList).toArray⟩ : ByteArray) = x
    rw [List.nil_append, ba_eta]
  rw [e]
  clear hc e
  go_enter Try.func6, Try.ntmps6
  go_wp2
  go_ret
  exact ⟨rfl, Below.refl _ _⟩

theorem i64_self (l : Nat) (h : l ≤ 1000000) : IntKind.i64.wrap (l : Int) = (l : Int) := by
  simp [IntKind.wrap, IntKind.bits, IntKind.signed]
  omega
theorem elem22 : Try.prog.elem 22 = 9 := by kernel_rfl
theorem slice22 (g l : Nat) (W : World) : (Instr.slice 22 (.slice (some ⟨g, 0, none⟩) (l + 1) (l + 1)) none (some (.int .i64 ((l : Int) + 1 - 1))) none).run Try.prog W = .ok (.slice (some ⟨g, 0, none⟩) l (l + 1)) W := by
  rw [run_slice_h W 22 (some ⟨g, 0, none⟩) (l + 1) (l + 1) (by rw [elem22]; exact Try.underlying22) .i64 ((l : Int) + 1 - 1) (by omega) (by omega), elem22]
  have e2 : (sizeOf 9).run Try.prog W = .ok 1 W := Try.sizeOf9 W
  have e1 : ((l : Int) + 1 - 1).toNat = l := by omega
  rw [e2, e1]
  simp [Result.andThen, sliced, Addr.add]

set_option maxHeartbeats 1000000 in
theorem list_many (g l : Nat) (ss : List ByteArray) (x : ByteArray) (W : World) (hl : ss.length = l) (h0 : 0 < l) (hl2 : l ≤ 65536) (hc : CellsAt W g (ss ++ [x])) (hx : x.size ≤ 1048576) (hj : (Lib.join (ss.map (·.data.toList)) [44, 32]).length ≤ 100000000) :
    Calls Try.prog 6 #[.slice (some ⟨g, 0, none⟩) (l + 1) (l + 1)] W fun e w' => e = .returned (.string ⟨(preB ss ++ x.data.toList).toArray⟩) ∧ Below W.heap.size W w' := by
  have hne : ss ≠ [] := fun e => by rw [e] at hl; simp at hl; omega
  obtain ⟨J, hJ⟩ : ∃ J, J = Lib.join (ss.map (·.data.toList)) [44, 32] := ⟨_, rfl⟩
  rw [← hJ] at hj
  have hxc : W.cell? ⟨g, l, none⟩ = some (.string x) := hc l x (by rw [← hl]; simp)
  have hg : g < W.heap.size := World.block_lt_of_cell? _ _ hxc
  have HJ : Hid (∀ W' : World, (∀ (j : Nat) x, ss[j]? = some x → W'.cell? ⟨g, 0 + j, none⟩ = some (.string x)) → g < W'.heap.size → Calls Try.prog 9 #[.slice (some ⟨g, 0, none⟩) l (l + 1), .string ⟨#[44, 32]⟩] W' fun e w' => e = .returned (.string ⟨J.toArray⟩) ∧ Below W'.heap.size W' w') := fun W' h1 h2 => by
    rw [← hl, hJ]
    exact Try.strings_Join g 0 (ss.length + 1) ss ⟨#[44, 32]⟩ W' h1 h2 (by omega) (by omega) (by show (Lib.join (ss.map (·.data.toList)) [44, 32]).length ≤ _; rw [← hJ]; omega)
  have HCS : Hid (∀ (j : Nat) x, ss[j]? = some x → W.cell? ⟨g, 0 + j, none⟩ = some (.string x)) := fun j x' h => by
    rw [Nat.zero_add]
    exact hc j x' (by rw [List.getElem?_append_left (List.getElem?_eq_some_iff.1 h).1]; exact h)
  have hadd1 : ∀ W' : World, (Op.stringOp .add ⟨J.toArray⟩ ⟨#[32, 97, 110, 100, 32]⟩).run Try.prog W' = .ok (.string ⟨(J ++ [32, 97, 110, 100, 32]).toArray⟩) W' := fun W' => by
    rw [run_string_add_sum W' ⟨J.toArray⟩ ⟨#[32, 97, 110, 100, 32]⟩ (by rw [ba_size]; show J.length + 5 ≤ _; omega)]
    rw [show (⟨#[32, 97, 110, 100, 32]⟩ : ByteArray) = ⟨([32, 97, 110, 100, 32] : List UInt8).toArray⟩ from rfl, ba_append]
  have hadd2 : ∀ W' : World, (Op.stringOp .add ⟨(J ++ [32, 97, 110, 100, 32]).toArray⟩ x).run Try.prog W' = .ok (.string ⟨(preB ss ++ x.data.toList).toArray⟩) W' := fun W' => by
    have h := run_string_add_sum (P := Try.prog) W' ⟨(J ++ [32, 97, 110, 100, 32]).toArray⟩ x (by rw [ba_size]; simp; omega)
    rw [h]
    have e : preB ss = J ++ [32, 97, 110, 100, 32] := by unfold preB; rw [if_neg hne, hJ]
    have e2 := ba_append (J ++ [32, 97, 110, 100, 32]) x.data.toList
    rw [ba_eta] at e2
    rw [e, e2]
  obtain ⟨A1, hA1⟩ : ∃ A1 : ByteArray, A1 = ⟨(J ++ [32, 97, 110, 100, 32]).toArray⟩ := ⟨_, rfl⟩
  obtain ⟨A2, hA2⟩ : ∃ A2 : ByteArray, A2 = ⟨(preB ss ++ x.data.toList).toArray⟩ := ⟨_, rfl⟩
  obtain ⟨A0, hA0⟩ : ∃ A0 : ByteArray, A0 = ⟨J.toArray⟩ := ⟨_, rfl⟩
  rw [← hA1] at hadd1 hadd2
  rw [← hA2] at hadd2 ⊢
  rw [← hA0] at hadd1 HJ
  clear hc hA1 hA2 hA0 hJ hne hj hl
  have hxd : W.drew.cell? ⟨g, l, none⟩ = some (.string x) := hxc
  have hsl1 : ∀ W' : World, (Instr.slice 22 (.slice (some ⟨g, 0, none⟩) (l + 1) (l + 1)) none (some (.int .i64 ((l : Int) + 1 - 1))) none).run Try.prog W' = .ok (.slice (some ⟨g, 0, none⟩) l (l + 1)) W' := fun W' => slice22 g l W'
  have hsl2 : ∀ W' : World, (Instr.slice 22 (.slice (some ⟨g, 0, none⟩) (l + 1) (l + 1)) none (some (.int .i64 (l : Int))) none).run Try.prog W' = .ok (.slice (some ⟨g, 0, none⟩) l (l + 1)) W' := fun W' => by
    have := slice22 g l W'
    rw [show (l : Int) + 1 - 1 = (l : Int) by omega] at this
    exact this
  have hwr : IntKind.i64.wrap (l : Int) = (l : Int) := i64_self l (by omega)
  have hlI : (l : Int) ≤ 65536 := by omega
  have h0I : (0 : Int) < (l : Int) := by omega
  have hn1 : ((l : Int) + 1 == 1) = false := by simp; omega
  go_enter Try.func6, Try.ntmps6
  go_wp2
  go_region_with (
    go_at_call 9
    refine (HJ.out _ ?_ ?_).mono ?_
    exact HCS.out
    exact hg
    rintro e w2 ⟨rfl, hb2⟩
    have hx2 : w2.cell? ⟨g, l, none⟩ = some (.string x) := (hb2.cell (show (⟨g, l, none⟩ : Addr).block < W.drew.heap.size from hg)).trans hxd)
  all_goals
    go_wp2
    go_ret
    exact ⟨rfl, (Below.drew (Below.refl _ W)).trans hb2⟩
end Go.Proofs.Qxb6619413a
