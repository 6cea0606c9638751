/-
  THE ROW of seat b6617329aD, lifted (the frame after the guide's proof-skeleton.mjs, turned to a listed row, a slice of texts beside).
-/
import Derived.Test.Qxb6617329aDoorRows
import Derived.Test.Qxb6617329aDoorMain
import Derived.WalkKit
import Derived.ProofKit
import Derived.OpenShut
import Derived.ShutString
import Derived.ChangeOld
import Derived.Below
import Derived.LaidMore
import Derived.MakeChecks
import Derived.SliceStrings
import Derived.Stop.Joined
import Derived.Lib.LaidTab
namespace Go.Proofs.Qxb6617329aDoor
open Go.ChangeShapes Go.WideShapes Go.ChangeAt Go.RowKit
open Go.ChangeMaps (open_string shut_string)
set_option linter.unusedVariables false
set_option linter.unusedSimpArgs false

theorem own : ownKnob Tryd.prog.godebug = none := by kernel_rfl
theorem laidOut : laidOutB Tryd.prog = true := by kernel_rfl

/-- The door's own heap meets the condition: three closed facts. -/
theorem door_met (os : Os) (args : Array Value) : laidMetH Tryd.prog Rows.fnFormatFlagsNamesTheFirstOwnerOfEachBitRow.laid ((World.doorLaid Tryd.prog 400 os).forCall (fun _ _ => 0) ⟨#[], args, []⟩).memory :=
  laidMetH_of_parts3 (fuel := 8) (laidMet_of_run' 8 (by kernel_rfl) (by kernel_rfl)) (by kernel_rfl) (by kernel_rfl)

def tab64 : List Int := [0, 1, 56, 2, 57, 49, 28, 3, 61, 58, 42, 50, 38, 29, 17, 4, 62, 47, 59, 36, 45, 43, 51, 22, 53, 39, 33, 30, 24, 18, 12, 5, 63, 55, 48, 27, 60, 41, 37, 16, 46, 35, 44, 21, 52, 32, 23, 11, 54, 26, 40, 15, 34, 20, 31, 10, 25, 14, 19, 9, 13, 8, 7, 6]

/-- WHAT THE CONDITION GIVES THE WALK: one cell of the table. -/
theorem of_laid {W : World} (h : laidMetH Tryd.prog Rows.fnFormatFlagsNamesTheFirstOwnerOfEachBitRow.laid W) : W.cell? ⟨3, 15, none⟩ = some (.int .u8 4) := by
  rw [MakeChecks.laidMetH_plain _ _ _ (by kernel_rfl)] at h
  obtain ⟨ps, ⟨_, _, _, _, _, _, _, _, _, _, ⟨g, t, cs, f, p, q, hg, ht, hv, hd, _, _⟩, _⟩, _, _⟩ := h
  have eg : some g = some 3 := hg.symm.trans (by kernel_rfl)
  obtain rfl := Option.some.inj eg
  have et : some t = some 67 := ht.symm.trans (by kernel_rfl)
  obtain rfl := Option.some.inj et
  have hc := Lib.cells_of_tab (k := .u8) (zs := tab64) Tryd.underlying67 Tryd.underlying5 (by kernel_rfl) (by kernel_rfl) hd
  have := World.var?_cell hg hv 15
  rw [this, ← Array.getElem?_toList, hc]
  rfl

/-- WHAT THE WALK IS TOLD OF A SLICE OF INTEGERS THAT CAME IN. -/
def IsRow (k : IntKind) (w : World) (a : Option Addr) (len cap : Nat) (zs : List Int) : Prop :=
  (a = none ∧ len = 0 ∧ cap = 0 ∧ zs = []) ∨
  ∃ x, a = some x ∧ len ≤ cap ∧ cap ≤ maxLen ∧ zs.length = cap ∧ (∀ i, i < zs.length → w.cell? (x.add i) = some (.int k (zs.getD i 0))) ∧ ∀ n ∈ zs, (Lit.int k n).wf = true
def IsTexts (w : World) (a : Option Addr) (len cap : Nat) (ss : List ByteArray) : Prop :=
  (a = none ∧ len = 0 ∧ cap = 0 ∧ ss = []) ∨
  ∃ x, a = some x ∧ len ≤ cap ∧ cap ≤ maxLen ∧ ss.length = cap ∧ (∀ i, i < ss.length → w.cell? (x.add i) = some (.string (ss.getD i ByteArray.empty)))

theorem vec_int (z : Int) (h : 0 ≤ z ∧ z ≤ 18446744073709551615) : ((BitVec.ofNat 64 z.toNat).toNat : Int) = z := by
  rw [BitVec.toNat_ofNat]
  have e : (2 : Nat) ^ 64 = 18446744073709551616 := by decide
  rw [e]
  omega

theorem src_bits {w : World} {a : Option Addr} {len cap : Nat} {zs : List Int} (h : IsRow .u64 w a len cap zs) : Src w a len (bitVals ((zs.take len).map fun z => BitVec.ofNat 64 z.toNat)) ∧ (a = none → len = 0 ∧ cap = 0) := by
  rcases h with ⟨rfl, rfl, rfl, rfl⟩ | ⟨x, rfl, hl, hm, hz, hcell, hwz⟩
  · exact ⟨⟨rfl, .inl rfl⟩, fun _ => ⟨rfl, rfl⟩⟩
  · refine ⟨⟨by simp [bitVals]; omega, .inr ⟨x, rfl, fun j v hj => ?_⟩⟩, fun h => by cases h⟩
    unfold bitVals at hj
    rw [List.map_map, List.getElem?_map] at hj
    obtain ⟨z, hz1, rfl⟩ := Option.map_eq_some_iff.1 hj
    have hlt : j < (zs.take len).length := (List.getElem?_eq_some_iff.1 hz1).1
    rw [List.length_take] at hlt
    rw [List.getElem?_take_of_lt (by omega)] at hz1
    have hmem : z ∈ zs := List.mem_of_getElem? hz1
    rw [hcell j (by omega), List.getD_eq_getElem?_getD, hz1]
    have hb := bounds_u64 (hwz z hmem)
    simp only [Option.getD_some, Function.comp]
    rw [vec_int z hb]

theorem src_texts {w : World} {a : Option Addr} {len cap : Nat} {ss : List ByteArray} (h : IsTexts w a len cap ss) : Src w a len (strVals (ss.take len)) ∧ TextsIn w a len (ss.take len) ∧ (a = none → len = 0 ∧ cap = 0) := by
  rcases h with ⟨rfl, rfl, rfl, rfl⟩ | ⟨x, rfl, hl, hm, hz, hcell⟩
  · exact ⟨⟨rfl, .inl rfl⟩, fun h => absurd h (by omega), fun _ => ⟨rfl, rfl⟩⟩
  · have hc : ∀ i, i < len → w.cell? (x.add i) = some (.string ((ss.take len).getD i ByteArray.empty)) := fun i hi => by
      rw [hcell i (by omega), List.getD_eq_getElem?_getD, List.getD_eq_getElem?_getD, List.getElem?_take_of_lt hi]
    refine ⟨⟨by simp [strVals]; omega, .inr ⟨x, rfl, fun j v hj => ?_⟩⟩, fun h0 => ?_, fun h => by cases h⟩
    · unfold strVals at hj
      rw [List.getElem?_map] at hj
      obtain ⟨z, hz1, rfl⟩ := Option.map_eq_some_iff.1 hj
      have hlt : j < (ss.take len).length := (List.getElem?_eq_some_iff.1 hz1).1
      rw [List.length_take] at hlt
      rw [hc j (by omega), List.getD_eq_getElem?_getD, hz1]
      rfl
    · obtain ⟨xb, xo, spot⟩ := x
      have hspot : spot = none := by simpa [Addr.add] using World.cell?_spot (hc 0 h0)
      subst hspot
      exact ⟨xb, xo, rfl, fun i hi => by have := hc i hi; rw [Addr.add_lit] at this; exact this⟩

set_option maxRecDepth 100000 in
theorem law_guard (b : Int) (pB pT : Option Addr) (lB lT cB cT : Nat) (ss : List ByteArray) (w : World) (hT : TextsIn w pT lT ss) (h : 131072 < lB ∨ 65536 < lT) :
    Calls Tryd.prog 3 #[.int .u64 b, .slice pB lB cB, .slice pT lT cT] w fun e w' => e = .returned (.bool true) ∧ w = w' := by
  have HZ := Lib.hid (bytes_any b pB pT lB lT cB cT ss w hT)
  clear hT
  rcases h with h | h
  · go_enter Tryd.func3, Tryd.ntmps3
    go_wp2_with (go_at_call 4; refine HZ.out.mono ?_; rintro e w' ⟨⟨bb, rfl, hbb⟩, rfl⟩; clear hbb)
    all_goals
      go_ret
      exact ⟨rfl, rfl⟩
  · by_cases h1 : 131072 < lB
    · go_enter Tryd.func3, Tryd.ntmps3
      go_wp2_with (go_at_call 4; refine HZ.out.mono ?_; rintro e w' ⟨⟨bb, rfl, hbb⟩, rfl⟩; clear hbb)
      all_goals
        go_ret
        exact ⟨rfl, rfl⟩
    · go_enter Tryd.func3, Tryd.ntmps3
      go_wp2_with (go_at_call 4; refine HZ.out.mono ?_; rintro e w' ⟨⟨bb, rfl, hbb⟩, rfl⟩; clear hbb)
      all_goals
        go_ret
        exact ⟨rfl, rfl⟩

theorem walk (a0 : Int) (w0 : (Lit.int .u64 a0).wf = true) (a1 a2 : Option Addr) (l1 c1 l2 c2 : Nat) (z1 : List Int) (s2 : List ByteArray) (w : World) (w1 : IsRow .u64 w a1 l1 c1 z1) (w2 : IsTexts w a2 l2 c2 s2) (ht : w.cell? ⟨3, 15, none⟩ = some (.int .u8 4)) :
    Calls Tryd.prog 3 #[.int .u64 a0, .slice a1 l1 c1, .slice a2 l2 c2] w fun e w' => e = .returned (.bool true) ∧ Below w.heap.size w w' := by
  obtain ⟨hB, hnB⟩ := src_bits w1
  obtain ⟨hT, hTin, hnT⟩ := src_texts w2
  by_cases h : 131072 < l1 ∨ 65536 < l2
  · exact (law_guard a0 a1 a2 l1 l2 c1 c2 _ w hTin h).mono fun _ _ h => ⟨h.1, h.2 ▸ Below.refl _ _⟩
  · have hb := bounds_u64 w0
    rw [← vec_int a0 hb]
    exact law_any (BitVec.ofNat 64 a0.toNat) a1 a2 l1 l2 c1 c2 _ _ w (by omega) (by omega) hB hT hTin hnB hnT ht

set_option maxRecDepth 100000 in
theorem lifted (os : Os) (started : os.Started) (H : Type) (enc : TypeId × Value → H) :
    ReturnsInHanded {} Tryd.checked os 3 .any (fun w args => (Rows.fnFormatFlagsNamesTheFirstOwnerOfEachBitSpec.pre enc Tryd.prog Tryd.f3 [] false w args ∧ laidMetH Tryd.prog Rows.fnFormatFlagsNamesTheFirstOwnerOfEachBitRow.laid w) ∧ sizedMet enc Tryd.prog Tryd.f3 (OpenSpec.ofChange Rows.fnFormatFlagsNamesTheFirstOwnerOfEachBitSpec) false w args)
      (Rows.fnFormatFlagsNamesTheFirstOwnerOfEachBitSpec.post enc Tryd.prog Tryd.f3 false true false false) := by
  refine returnsInHanded_of_change_and (C := Tryd.checked) (X := fun w _ => laidMetH Tryd.prog Rows.fnFormatFlagsNamesTheFirstOwnerOfEachBitRow.laid w) (fun _ _ _ hh h => h.of_heap hh) own started (by kernel_rfl) Tryd.func3
    (ChangeSpec.witness_shaped (enc := enc) (C := Tryd.checked) (os := os) (X := fun w _ => laidMetH Tryd.prog Rows.fnFormatFlagsNamesTheFirstOwnerOfEachBitRow.laid w) false (World.doorLaid Tryd.prog 400 os) #[.int .u64 0, .slice none 0 0, .slice none 0 0] 8 rfl (World.shaped_of_RefB (by kernel_rfl) (by kernel_rfl)) (by kernel_rfl) (by kernel_rfl) (by kernel_rfl) (door_met os _)) ?_
  intro W base args ds gs before hval0 hW _ _ hL _
  have hval : ∀ (j : Nat) t v, Tryd.f3.params[j]? = some t → args[j]? = some v → Value.okWide Tryd.prog W .any base t v := hval0
  have hW' := hW
  obtain ⟨p, q, hA0, hV, rfl, hfz, hnd⟩ := hW
  have hA : DataW.TrodAll enc Tryd.prog W 0 (fun _ => true) true Tryd.f3.params.toList args.toList ds p := hA0
  rw [Tryd.params3] at hA hval
  obtain ⟨v0, vs0, d0, ds0, p0, q0, hargs, rfl, rfl, h0, r0⟩ := trodAll_cons hA
  obtain ⟨v1, vs1, d1, ds1, p1, q1, rfl, rfl, rfl, h1, r1⟩ := trodAll_cons r0
  obtain ⟨v2, vs2, d2, ds2, p2, q2, rfl, rfl, rfl, h2, r2⟩ := trodAll_cons r1
  obtain ⟨rfl, rfl, rfl⟩ := trodAll_nil r2
  obtain rfl : args = #[v0, v1, v2] := by cases args; simp_all
  obtain ⟨rfl, rfl⟩ := trodVars_none hV
  obtain ⟨a0, rfl, rfl, rfl, w0⟩ := open_int Tryd.underlying22 (hval 0 22 v0 rfl rfl) h0
  obtain ⟨a1, len1, cap1, rfl⟩ := okWide_slice Tryd.underlying23 (hval 1 23 v1 rfl rfl)
  have k1 := h1
  have lt1 : ∀ x ∈ p1, x.block < W.heap.size := by obtain ⟨m, hm⟩ := k1; exact DataW.trod_lt m _ _ _ hm
  obtain ⟨z1, w1⟩ : ∃ zs, IsRow .u64 W a1 len1 cap1 zs := by
    obtain ⟨fuel, hf⟩ := h1
    rcases open_ints Tryd.underlying23 Tryd.underlying22 (by kernel_rfl) hf with ⟨hcs, _⟩ | ⟨x, l, c, zs, hcs, _, hl, hm, hz, _, hcell, hwz⟩
    · simp [Value.cells] at hcs
      obtain ⟨rfl, rfl, rfl⟩ := hcs
      exact ⟨[], .inl ⟨rfl, rfl, rfl, rfl⟩⟩
    · simp [Value.cells] at hcs
      obtain ⟨rfl, rfl, rfl⟩ := hcs
      exact ⟨zs, .inr ⟨_, rfl, hl, hm, by simpa using hz, hcell, hwz⟩⟩
  obtain ⟨a2, len2, cap2, rfl⟩ := okWide_slice Tryd.underlying24 (hval 2 24 v2 rfl rfl)
  have k2 := h2
  have lt2 : ∀ x ∈ p2, x.block < W.heap.size := by obtain ⟨m, hm⟩ := k2; exact DataW.trod_lt m _ _ _ hm
  obtain ⟨s2, w2⟩ : ∃ ss, IsTexts W a2 len2 cap2 ss := by
    obtain ⟨fuel, hf⟩ := h2
    rcases open_strings Tryd.underlying24 Tryd.underlying9 (by kernel_rfl) hf with ⟨hcs, _⟩ | ⟨x, l, c, ss, hcs, _, hl, hm, hz, _, hcell, _⟩
    · simp [Value.cells] at hcs
      obtain ⟨rfl, rfl, rfl⟩ := hcs
      exact ⟨[], .inl ⟨rfl, rfl, rfl, rfl⟩⟩
    · simp [Value.cells] at hcs
      obtain ⟨rfl, rfl, rfl⟩ := hcs
      exact ⟨ss, .inr ⟨_, rfl, hl, hm, by simpa using hz, hcell⟩⟩
  have ht := of_laid hL
  clear hA0 hval0
  refine (walk a0 w0 a1 a2 len1 cap1 len2 cap2 z1 s2 W w1 w2 ht).mono fun e W' ⟨he, bel⟩ => ?_
  subst he
  exact ⟨_, rfl, _, _, _, [], _, [], hW', trodAll_mk1 (shut_bool Tryd.underlying4 _), (trodAll_cons_mk (shut_int Tryd.underlying22 w0) (trodAll_cons_mk (Below.trod laidOut (by kernel_rfl) (of_decide_eq_true (by kernel_rfl)) k1 bel lt1) (trodAll_cons_mk (Below.trod laidOut (by kernel_rfl) (of_decide_eq_true (by kernel_rfl)) k2 bel lt2) trodAll_mk0))), rfl, bel.frame _, fun h => by cases h⟩

theorem over : Rows.fnFormatFlagsNamesTheFirstOwnerOfEachBitRow.holds Tryd.pinned (OpenSpec.ofChange Rows.fnFormatFlagsNamesTheFirstOwnerOfEachBitSpec) :=
  OpenClaim.holds_of_wide 3 Tryd.f3 rfl rfl rfl rfl rfl rfl rfl ⟨rfl, rfl, rfl, rfl, rfl⟩ rfl rfl rfl rfl rfl (by kernel_rfl) Tryd.func3 (by kernel_rfl)
    (of_decide_eq_true (by kernel_rfl)) (by unfold Func.isWrapper; first | (rw [if_pos (by decide +kernel)]; kernel_rfl) | (rw [if_neg (by decide +kernel)]; exact ⟨rfl, rfl⟩))
    (fun os started H enc _ => lifted os started H enc)
end Go.Proofs.Qxb6617329aDoor
