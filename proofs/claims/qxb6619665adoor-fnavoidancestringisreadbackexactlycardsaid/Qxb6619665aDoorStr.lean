/-
  THE WALKS of avoidance.String and ZZAvoidanceString (seat b6619665aD).
-/
import Derived.Test.Qxb6619665aDoorShelf
import Derived.Test.Qxb6619665aDoorPlain
import Derived.WalkKit
import Derived.WalkSpells
import Derived.WalkLawsBesides
import Derived.KernelRfl
import Derived.Lib.Hide
import Derived.Lib.AppendIntMem
namespace Go.Proofs.Qxb6619665aDoor
open Go.RowKit
set_option linter.unusedVariables false
set_option linter.unusedSimpArgs false

def nameOf (a : Nat) : ByteArray := ⟨(nameL a).toArray⟩

def Tab (w : World) : Prop := Lib.TabIs Tryd.prog w "internal/strconv.uint64pow10" .u64 Lib.pow10Tab

theorem Tab.later {w w' : World} (h : Tab w) (hb : Below w.heap.size w w') : Tab w' := Lib.tabBelow_of_tabIs h w' hb

theorem ba_append (a b : List UInt8) : (⟨a.toArray⟩ : ByteArray) ++ (⟨b.toArray⟩ : ByteArray) = ⟨(a ++ b).toArray⟩ := by
  apply ByteArray.ext
  simp
theorem ba_size (l : List UInt8) : (⟨l.toArray⟩ : ByteArray).size = l.length := by simp [ByteArray.size]

theorem string_any (a : Nat) (w : World) (ha : a ≤ 255) (hT : Tab w) :
    Calls Tryd.prog 6 #[.int .u8 a] w fun e w' => e = .returned (.string (nameOf a)) ∧ Below w.heap.size w w' := by
  by_cases h1 : a = 1
  · subst h1
    have e : nameOf 1 = ⟨#[99, 108, 115, 110]⟩ := rfl
    rw [e]
    clear e hT
    go_enter Tryd.func6, Tryd.ntmps6
    go_wp2
    go_ret
    exact ⟨rfl, Below.refl _ _⟩
  by_cases h2 : a = 2
  · subst h2
    have e : nameOf 2 = ⟨#[112, 117, 110, 99]⟩ := rfl
    rw [e]
    clear e hT
    go_enter Tryd.func6, Tryd.ntmps6
    go_wp2
    go_ret
    exact ⟨rfl, Below.refl _ _⟩
  obtain ⟨hd1, hd3, _⟩ := good_at a ha
  have HI := Lib.hid (Tryd.strconv_Itoa (a : Int) (by omega) (by omega) w hT)
  rw [itoa_digs a ha] at HI
  have hadd1 : ∀ W' : World, (Op.stringOp .add ⟨#[97, 118, 111, 105, 100, 97, 110, 99, 101, 40]⟩ ⟨(digs a).toArray⟩).run Tryd.prog W' = .ok (.string ⟨(preN ++ digs a).toArray⟩) W' := fun W' => by
    rw [run_string_add_sum W' _ _ (by rw [ba_size]; show 10 + (digs a).length ≤ _; omega)]
    rw [show (⟨#[97, 118, 111, 105, 100, 97, 110, 99, 101, 40]⟩ : ByteArray) = ⟨preN.toArray⟩ from rfl, ba_append]
  have hadd2 : ∀ W' : World, (Op.stringOp .add ⟨(preN ++ digs a).toArray⟩ ⟨#[41]⟩).run Tryd.prog W' = .ok (.string (nameOf a)) W' := fun W' => by
    rw [run_string_add_sum W' _ _ (by rw [ba_size, List.length_append]; show 10 + (digs a).length + 1 ≤ _; omega)]
    rw [show (⟨#[41]⟩ : ByteArray) = ⟨([41] : List UInt8).toArray⟩ from rfl, ba_append]
    unfold nameOf nameL
    rw [if_neg h1, if_neg h2, List.append_assoc]
  obtain ⟨A1, hA1⟩ : ∃ A1 : ByteArray, A1 = ⟨(preN ++ digs a).toArray⟩ := ⟨_, rfl⟩
  obtain ⟨A2, hA2⟩ : ∃ A2 : ByteArray, A2 = nameOf a := ⟨_, rfl⟩
  obtain ⟨A0, hA0⟩ : ∃ A0 : ByteArray, A0 = ⟨(digs a).toArray⟩ := ⟨_, rfl⟩
  rw [← hA1] at hadd1 hadd2
  rw [← hA2] at hadd2 ⊢
  rw [← hA0] at hadd1 HI
  clear hA1 hA2 hA0 hT hd1 hd3
  have hn1 : ((a : Int) == 1) = false := by simp; omega
  have hn2 : ((a : Int) == 2) = false := by simp; omega
  have haI : (a : Int) ≤ 255 := by omega
  go_enter Tryd.func6, Tryd.ntmps6
  go_wp2_with (
    go_at_call 7
    refine HI.out.mono ?_
    rintro e w2 ⟨rfl, k, os, rfl⟩)
  go_ret
  exact ⟨rfl, Lib.below_grow _ _ (Nat.le_refl _) _ _⟩

theorem zzstring_any (a : Nat) (w : World) (ha : a ≤ 255) (hT : Tab w) :
    Calls Tryd.prog 4 #[.int .u8 a] w fun e w' => e = .returned (.string (nameOf a)) ∧ Below w.heap.size w w' := by
  have HS := Lib.hid (string_any a w ha hT)
  clear hT
  go_enter Tryd.func4, Tryd.ntmps4
  go_wp2_with (
    go_at_call 6
    refine HS.out.mono ?_
    rintro e w2 ⟨rfl, hb⟩)
  go_ret
  exact ⟨rfl, hb⟩
end Go.Proofs.Qxb6619665aDoor
