/-
  THE WALKS of zzEndsWith and of the law FnListLastNameStandsAloneAtTheEnd (seat b6619413a).
-/
import Derived.Test.Qxb6619413aList
namespace Go.Proofs.Qxb6619413a
open Go.RowKit
set_option linter.unusedVariables false
set_option linter.unusedSimpArgs false

theorem ext_end (a b : List UInt8) : (⟨(a ++ b).toArray⟩ : ByteArray).extract a.length (a.length + b.length) = ⟨b.toArray⟩ := by
  apply ByteArray.ext
  apply Array.toList_inj.1
  simp [ByteArray.data_extract]

theorem ext_front (a b : List UInt8) : (⟨(a ++ b).toArray⟩ : ByteArray).extract 0 a.length = ⟨a.toArray⟩ := by
  apply ByteArray.ext
  apply Array.toList_inj.1
  simp [ByteArray.data_extract]

set_option maxHeartbeats 400000 in
theorem ends_any (s t : ByteArray) (pre : List UInt8) (w : World) (hs : s = ⟨(pre ++ t.data.toList).toArray⟩) (hb : s.size ≤ 1000000000) :
    Calls Try.prog 8 #[.string s, .string t] w fun e w' => e = .returned (.bool true) ∧ w = w' := by
  have htl : t.data.toList.length = t.size := by rw [Array.length_toList]; rfl
  have hsz : s.size = pre.length + t.size := by rw [hs, ba_size, List.length_append, htl]
  have hle : t.size ≤ s.size := by omega
  have hsl : ∀ W : World, (Instr.slice 9 (.string s) (some (.int .i64 ((s.size : Int) - (t.size : Int)))) none none).run Try.prog W = .ok (.string t) W := fun W => by
    rw [run_slice_string_l W 9 s Try.underlying9 .i64 ((s.size : Int) - (t.size : Int)) (by omega) (by omega)]
    have e1 : ((s.size : Int) - (t.size : Int)).toNat = pre.length := by omega
    rw [e1]
    have e2 : s.extract pre.length s.size = t := by
      rw [hsz]
      rw [hs, ← htl, ext_end, ba_eta]
    rw [e2]
  clear hs hsz htl
  go_enter Try.func8, Try.ntmps8
  go_wp2
  go_ret
  exact ⟨rfl, rfl⟩

theorem lens_sum (ss : List ByteArray) : ∀ i, i ≤ ss.length → Lib.lens ((ss.map (·.data.toList)).take i) = sumTo ss i
  | 0, _ => by simp [Lib.lens, sumTo]
  | i + 1, h => by
    have e : (ss.map (·.data.toList))[i]? = some (ss.getD i ByteArray.empty).data.toList := by
      rw [List.getElem?_map, List.getD_eq_getElem?_getD, List.getElem?_eq_getElem (by omega)]
      rfl
    rw [Lib.lens_take_succ _ i _ e, lens_sum ss i (by omega), Array.length_toList]
    rfl

theorem join_bound (ss : List ByteArray) (h1 : ss.length ≤ 65536) (h2 : sumTo ss ss.length ≤ 1048576) : (Lib.join (ss.map (·.data.toList)) [44, 32]).length ≤ 2000000 := by
  have h := lens_sum ss ss.length (Nat.le_refl _)
  rw [List.take_of_length_le (by simp)] at h
  cases ss with
  | nil => simp [Lib.join_nil]
  | cons a r =>
    have h' : Lib.lens (a.data.toList :: r.map (·.data.toList)) = sumTo (a :: r) (a :: r).length := h
    rw [List.map_cons, Lib.join_length, h']
    simp only [List.length_map, List.length_cons, List.length_nil] at h1 h2 ⊢
    omega

theorem list_any (g l : Nat) (ss : List ByteArray) (x : ByteArray) (W : World) (hl : ss.length = l) (hl2 : l ≤ 65536) (hc : CellsAt W g (ss ++ [x])) (hx : x.size ≤ 1048576) (hs : sumTo ss l ≤ 1048576) :
    Calls Try.prog 6 #[.slice (some ⟨g, 0, none⟩) (l + 1) (l + 1)] W fun e w' => e = .returned (.string ⟨(preB ss ++ x.data.toList).toArray⟩) ∧ Below W.heap.size W w' := by
  by_cases h0 : l = 0
  · subst h0
    obtain rfl : ss = [] := List.eq_nil_of_length_eq_zero hl
    exact list_one g x W hc
  · have hj := join_bound ss (by omega) (by rw [hl]; exact hs)
    exact list_many g l ss x W hl (by omega) hl2 hc hx (by omega)

/-- zzWithTail and List, one behind the other: what the law uses. -/
theorem cells_tail {w : World} {cs : Array Value} {l : List ByteArray} (h : cs.toList = strVals l) : CellsAt (w.alloc (.cells cs 9)) w.heap.size l := by
  intro j x hj
  have e : cs[j]? = some (.string x) := by
    rw [← Array.getElem?_toList, h]
    unfold strVals
    rw [List.getElem?_map, hj]
    rfl
  simp [e]

theorem pre_len (ss : List ByteArray) (h1 : ss.length ≤ 65536) (h2 : sumTo ss ss.length ≤ 1048576) : (preB ss).length ≤ 3000000 := by
  have := join_bound ss h1 h2
  unfold preB
  split
  · simp
  · rw [List.length_append]
    simp
    omega

theorem facts (l : Nat) (ss : List ByteArray) (x y : ByteArray) (hl : ss.length = l) (hl2 : l ≤ 65536) (hx : x.size ≤ 1048576) (hy : y.size ≤ 1048576) (hs : sumTo ss l ≤ 1048576) :
    ∃ s t PS : ByteArray, (x.size ≤ s.size ∧ s.size ≤ 10000000 ∧ y.size ≤ t.size ∧ t.size ≤ 10000000)
      ∧ Hid (∀ g W, CellsAt W g (ss ++ [x]) → Calls Try.prog 6 #[.slice (some ⟨g, 0, none⟩) (l + 1) (l + 1)] W fun e w' => e = .returned (.string s) ∧ Below W.heap.size W w')
      ∧ Hid (∀ g W, CellsAt W g (ss ++ [y]) → Calls Try.prog 6 #[.slice (some ⟨g, 0, none⟩) (l + 1) (l + 1)] W fun e w' => e = .returned (.string t) ∧ Below W.heap.size W w')
      ∧ Hid (∀ W, Calls Try.prog 8 #[.string s, .string x] W fun e w' => e = .returned (.bool true) ∧ W = w')
      ∧ Hid (∀ W, Calls Try.prog 8 #[.string t, .string y] W fun e w' => e = .returned (.bool true) ∧ W = w')
      ∧ (∀ W : World, (Instr.slice 9 (.string s) none (some (.int .i64 ((s.size : Int) - (x.size : Int)))) none).run Try.prog W = .ok (.string PS) W)
      ∧ (∀ W : World, (Instr.slice 9 (.string t) none (some (.int .i64 ((t.size : Int) - (y.size : Int)))) none).run Try.prog W = .ok (.string PS) W)
      ∧ Hid (l = 0 → PS = ⟨#[]⟩)
      ∧ Hid (0 < l → ∀ W, Calls Try.prog 8 #[.string PS, .string ⟨#[32, 97, 110, 100, 32]⟩] W fun e w' => e = .returned (.bool true) ∧ W = w') := by
  have hp := pre_len ss (by omega) (by rw [hl]; exact hs)
  have hlen : ∀ z : ByteArray, z.data.toList.length = z.size := fun z => by rw [Array.length_toList]; rfl
  have hsz : ∀ z : ByteArray, (⟨(preB ss ++ z.data.toList).toArray⟩ : ByteArray).size = (preB ss).length + z.size := fun z => by rw [ba_size, List.length_append, hlen]
  have hsl : ∀ z : ByteArray, z.size ≤ 1048576 → ∀ W : World, (Instr.slice 9 (.string ⟨(preB ss ++ z.data.toList).toArray⟩) none (some (.int .i64 (((⟨(preB ss ++ z.data.toList).toArray⟩ : ByteArray).size : Int) - (z.size : Int)))) none).run Try.prog W = .ok (.string ⟨(preB ss).toArray⟩) W := fun z hz W => by
    have h1 := hsz z
    rw [run_slice_string_h W 9 _ Try.underlying9 .i64 _ (by omega) (by omega)]
    have e1 : (((⟨(preB ss ++ z.data.toList).toArray⟩ : ByteArray).size : Int) - (z.size : Int)).toNat = (preB ss).length := by omega
    rw [e1, ext_front]
  refine ⟨⟨(preB ss ++ x.data.toList).toArray⟩, ⟨(preB ss ++ y.data.toList).toArray⟩, ⟨(preB ss).toArray⟩, ⟨?_, ?_, ?_, ?_⟩, ?_, ?_, ?_, ?_, hsl x hx, hsl y hy, ?_, ?_⟩
  · rw [hsz]; omega
  · rw [hsz]; omega
  · rw [hsz]; omega
  · rw [hsz]; omega
  · exact Lib.hid fun g W h => list_any g l ss x W hl hl2 h hx hs
  · exact Lib.hid fun g W h => list_any g l ss y W hl hl2 h hy hs
  · exact Lib.hid fun W => ends_any _ x (preB ss) W rfl (by rw [hsz]; omega)
  · exact Lib.hid fun W => ends_any _ y (preB ss) W rfl (by rw [hsz]; omega)
  · refine Lib.hid fun h0 => ?_
    obtain rfl : ss = [] := List.eq_nil_of_length_eq_zero (by omega)
    rfl
  · refine Lib.hid fun h0 W => ends_any _ _ (Lib.join (ss.map (·.data.toList)) [44, 32]) W ?_ (by rw [ba_size]; omega)
    have hne : ss ≠ [] := fun e => by rw [e] at hl; simp at hl; omega
    unfold preB
    rw [if_neg hne]

set_option maxHeartbeats 2000000 in
theorem law_any (p : Option Addr) (l c : Nat) (ss : List ByteArray) (x y : ByteArray) (w : World) (hl : ss.length = l) (hT : TextsIn w p l ss) :
    Calls Try.prog 3 #[.slice p l c, .string x, .string y] w fun e w' => e = .returned (.bool true) ∧ Below w.heap.size w w' := by
  have HB := Lib.hid (bytes_any p l c ss x y w hT)
  have HW := Lib.hid (within_any p l c ss x y w hT)
  have HT := Lib.hid hT
  have HL := Lib.hid hl
  clear hT hl
  go_enter Try.func3, Try.ntmps3
  go_wp2_with (first
    | (go_at_call 4; refine HB.out.mono ?_; rintro e w' ⟨⟨bb, rfl⟩, rfl⟩)
    | (go_at_call 5; refine HW.out.mono ?_; rintro e w' ⟨⟨b2, rfl, hb2⟩, rfl⟩; have HB2 := Lib.hid hb2; clear hb2))
  · go_ret
    exact ⟨rfl, Below.refl _ _⟩
  · go_ret
    exact ⟨rfl, Below.refl _ _⟩
  obtain ⟨hb1, hb2, hb3, hb4⟩ := HB2.out (by simpa using ‹(!b2) = false›)
  obtain ⟨s, t, PS, hsz, HX, HY, HEX, HEY, hslx, hsly, HP0, HP1⟩ := facts l ss x y HL.out hb1 hb2 hb3 hb4
  obtain ⟨hs1, hs2, hs3, hs4⟩ := hsz
  have hl65 := hb1
  clear HB HW HB2 hb4
  refine (tail_any p l c ss x w hb1 HL.out HT.out).mono ?_
  rintro e W1 ⟨rfl, cs, hW1, hcs⟩
  have HC1 := Lib.hid (cells_tail (w := w) hcs)
  have HBe1 := Lib.hid (show Below w.heap.size w W1 from hW1 ▸ (Below.refl _ w).alloc (Nat.le_refl _) _)
  rw [← hW1] at HC1
  clear hcs hW1
  go_wp2_with fail
  refine (HX.out _ _ HC1.out).mono ?_
  rintro e W2 ⟨rfl, hB2⟩
  have HBe2 := Lib.hid (HBe1.out.trans (hB2.mono HBe1.out.size))
  clear hB2
  go_wp2_with fail
  refine (tail_any p l c ss y W2 hb1 HL.out (HT.out.later HBe2.out)).mono ?_
  rintro e W3 ⟨rfl, cs3, hW3, hcs⟩
  have HC3 := Lib.hid (cells_tail (w := W2) hcs)
  have HBe3 := Lib.hid (show Below W2.heap.size W2 W3 from hW3 ▸ (Below.refl _ W2).alloc (Nat.le_refl _) _)
  rw [← hW3] at HC3
  clear hcs hW3
  go_wp2_with fail
  refine (HY.out _ _ HC3.out).mono ?_
  rintro e W4 ⟨rfl, hB4⟩
  have HBe4 := Lib.hid (HBe2.out.trans (((HBe3.out).trans (hB4.mono HBe3.out.size)).mono HBe2.out.size))
  clear hB4 HBe1 HBe2 HBe3 HC1 HC3 HX HY HT HL hb2 hb3
  go_wp2_with fail
  refine (HEX.out _).mono ?_
  rintro e w5 ⟨rfl, rfl⟩
  go_wp2_with fail
  refine (HEY.out _).mono ?_
  rintro e w5 ⟨rfl, rfl⟩
  by_cases h0 : l = 0
  · obtain rfl := HP0.out h0
    have h0' : ((l : Int) == 0) = true := by simp; omega
    clear HP0 HP1 hb1
    go_wp2_with fail
    go_ret
    exact ⟨rfl, HBe4.out⟩
  · have h0' : ((l : Int) == 0) = false := by simp; omega
    have HP := Lib.hid (HP1.out (by omega))
    clear HP0 HP1 hb1
    go_wp2_with fail
    refine (HP.out _).mono ?_
    rintro e w5 ⟨rfl, rfl⟩
    go_wp2_with fail
    go_ret
    exact ⟨rfl, HBe4.out⟩
end Go.Proofs.Qxb6619413a
