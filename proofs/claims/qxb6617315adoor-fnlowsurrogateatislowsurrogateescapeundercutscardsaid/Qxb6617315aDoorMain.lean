/-
  THE WALK of the law FnLowSurrogateAtIsLowSurrogateEscapeUnderCuts (seat b6617315aD).
-/
import Derived.Test.Qxb6617315aDoorLaw
import Derived.Laws.CopyRow
namespace Go.Proofs.Qxb6617315aDoor
open Go.RowKit
set_option linter.unusedVariables false

theorem bytes_no (p : Option Addr) (len cap : Nat) (a k m : Int) (w : World) (h : 1048576 < len) :
    Calls Tryd.prog 4 #[.slice p len cap, .int .i64 a, .int .i64 k, .int .i64 m] w fun e w' => e = .returned (.bool false) ∧ w = w' := by
  go_enter Tryd.func4, Tryd.ntmps4
  go_wp2
  go_ret
  exact ⟨rfl, rfl⟩

theorem bytes_yes (p : Option Addr) (len cap : Nat) (a k m : Int) (w : World) (h : len ≤ 1048576) :
    Calls Tryd.prog 4 #[.slice p len cap, .int .i64 a, .int .i64 k, .int .i64 m] w fun e w' => e = .returned (.bool true) ∧ w = w' := by
  go_enter Tryd.func4, Tryd.ntmps4
  go_wp2
  go_ret
  exact ⟨rfl, rfl⟩

theorem law_big (p : Option Addr) (len cap : Nat) (a k m : Int) (w : World) (h : 1048576 < len) :
    Calls Tryd.prog 3 #[.slice p len cap, .int .i64 a, .int .i64 k, .int .i64 m] w fun e w' => e = .returned (.bool true) ∧ w = w' := by
  go_enter Tryd.func3, Tryd.ntmps3
  go_wp2_with (go_at_call 4; refine (bytes_no _ _ _ _ _ _ _ h).mono ?_; rintro e w' ⟨rfl, rfl⟩)
  go_ret
  exact ⟨rfl, rfl⟩

theorem law_off (p : Option Addr) (len cap : Nat) (a k m : Int) (w : World) (h : len ≤ 1048576) (ha : a < 0 ∨ 1073741824 < a) :
    Calls Tryd.prog 3 #[.slice p len cap, .int .i64 a, .int .i64 k, .int .i64 m] w fun e w' => e = .returned (.bool true) ∧ w = w' := by
  rcases ha with ha | ha
  · go_enter Tryd.func3, Tryd.ntmps3
    go_wp2_with (go_at_call 4; refine (bytes_yes _ _ _ _ _ _ _ h).mono ?_; rintro e w' ⟨rfl, rfl⟩)
    go_ret
    exact ⟨rfl, rfl⟩
  · have ha' : ¬ a < 0 := by omega
    go_enter Tryd.func3, Tryd.ntmps3
    go_wp2_with (go_at_call 4; refine (bytes_yes _ _ _ _ _ _ _ h).mono ?_; rintro e w' ⟨rfl, rfl⟩)
    go_ret
    exact ⟨rfl, rfl⟩

theorem Lies.later {w w' : World} {p : Option Addr} {xs : List Int} (h : Lies w p xs) (hb : Below w.heap.size w w') : Lies w' p xs := by
  intro h0
  obtain ⟨b, off, rfl, hc⟩ := h h0
  exact ⟨b, off, rfl, fun i hi => (hb.cell (World.block_lt_of_cell? _ _ (hc i hi))).trans (hc i hi)⟩

/-- The contract of ZZlowSurrogateAt, its offset as the walk spells it. -/
theorem zz_at (p : Option Addr) (len cap n : Nat) (a : Int) (xs : List Int) (te : TypeId) (pe : Value) (w : World) (han : a = (n : Int)) (hx : xs.length = len) (hn : n ≤ 1073741824) (hl : len ≤ 1048576) (hcap : len ≤ cap)
    (hc : Lies w p xs) (hv : w.cell? ⟨0, 0, none⟩ = some (.iface te pe)) :
    Calls Tryd.prog 5 #[.slice p len cap, .int .i64 a] w fun e w' => e = .returned (.bool (lowAt xs n)) ∧ Below w.heap.size w w' := by
  subst han
  exact zz_any p len cap n xs te pe w hx hn hl hcap hc hv

theorem esc_at (p : Option Addr) (len cap n : Nat) (xs : List Int) (w : World) (hx : xs.length = len) (hn : n ≤ 1073741824) (hl : len ≤ 1048576) (hcap : len ≤ cap)
    (hc : Lies w p xs) (hb : ∀ i, 0 ≤ xs.getD i 0 ∧ xs.getD i 0 ≤ 255) :
    Calls Tryd.prog 6 #[.slice p len cap, .int .i64 (n : Int)] w fun e w' => e = .returned (.bool (lowAt xs n)) ∧ w = w' := by
  rw [lowAt_eq xs n hb]
  by_cases hs : n + 6 ≤ len
  · obtain ⟨b, off, rfl, hcell⟩ := hc (by omega)
    have e : escAt xs n = escB (six xs n) := by unfold escAt; rw [if_pos (by omega)]
    rw [e]
    exact esc_long b off len cap n _ _ _ _ _ _ w hn hl hs hcap (hcell n (by omega)) (hcell (n + 1) (by omega)) (hcell (n + 2) (by omega)) (hcell (n + 3) (by omega)) (hcell (n + 4) (by omega)) (hcell (n + 5) (by omega)) (hb _) (hb _)
  · have e : escAt xs n = false := by unfold escAt; rw [if_neg (by omega)]
    rw [e]
    exact esc_short p len cap n w hn hl (by omega)

set_option maxHeartbeats 1000000 in
theorem law_some (a0 : Addr) (len cap n : Nat) (k m : Int) (xs : List Int) (te : TypeId) (pe : Value) (w : World) (hx : xs.length = len) (hn : n ≤ 1073741824) (hl : len ≤ 1048576)
    (hsrc : ∀ j v, (xs.map (Value.int .u8))[j]? = some v → w.cell? (a0.add j) = some v) (hb : ∀ i, 0 ≤ xs.getD i 0 ∧ xs.getD i 0 ≤ 255) (hv : w.cell? ⟨0, 0, none⟩ = some (.iface te pe)) :
    Calls Tryd.prog 3 #[.slice (some a0) len cap, .int .i64 (n : Int), .int .i64 k, .int .i64 m] w fun e w' => e = .returned (.bool true) ∧ Below w.heap.size w w' := by
  obtain ⟨M, hM⟩ : ∃ M, M = madeCells #[Value.int .u8 0] len := ⟨_, rfl⟩
  have hMs : M.size = len := by rw [hM, size_madeCells]
  have hmk : ∀ W : World, (Instr.makeSlice 22 (.int .i64 (len : Int)) (.int .i64 (len : Int))).run Tryd.prog W = .ok (.slice (some ⟨W.heap.size, 0, none⟩) len len) (W.alloc (.cells M 5)) := fun W => by
    rw [hM]
    exact run_make_row' 22 5 (.int .u8 0) 1 Tryd.underlying22 info5 rfl .i64 .i64 len (by omega) (by omega) W
  clear hM
  have hsrc1 : ∀ j v, (xs.map (Value.int .u8))[j]? = some v → (w.alloc (.cells M 5)).cell? (a0.add j) = some v := fun j v h => by
    have h1 := hsrc j v h
    exact (((Below.refl _ w).alloc (Nat.le_refl _) _).cell (World.block_lt_of_cell? _ _ h1)).trans h1
  have hcp := run_copy_row (P := Tryd.prog) (w.alloc (.cells M 5)) 22 22 3 5 w.heap.size 0 len len a0 len cap M 5 (xs.map (Value.int .u8)) Tryd.underlying22 size5 (heap_alloc_new w _) (by simp [hx]) hsrc1 (by simp [hx]; omega)
    (fun v hv => by obtain ⟨z, _, rfl⟩ := List.mem_map.1 hv; rfl)
  obtain ⟨Y, hY⟩ : ∃ Y, Y = (M.toList.take 0 ++ xs.map (Value.int .u8) ++ M.toList.drop (0 + (xs.map (Value.int .u8)).length)).toArray := ⟨_, rfl⟩
  rw [← hY] at hcp
  have hYl : Y.toList = xs.map (Value.int .u8) := by
    rw [hY, List.toList_toArray, List.take_zero, List.nil_append, List.drop_of_length_le (by rw [Array.length_toList]; simp; omega), List.append_nil]
  clear hY
  have hgY : ((w.alloc (.cells M 5)).setRow w.heap.size Y).heap[w.heap.size]? = some (.cells Y 5 (0, 0)) := setRow_heap _ _ M _ 5 (0, 0) (heap_alloc_new w _)
  have hb1 : Below w.heap.size w ((w.alloc (.cells M 5)).setRow w.heap.size Y) :=
    ((Below.refl _ w).alloc (Nat.le_refl _) _).trans ⟨rfl, rfl, rfl, by simp, fun k hk => setRow_other _ _ _ _ (by omega)⟩
  rw [List.length_map, hx] at hcp
  generalize (w.alloc (.cells M 5)).setRow w.heap.size Y = W1 at hcp hgY hb1
  have hL1 : Lies W1 (some ⟨w.heap.size, 0, none⟩) xs := fun _ => ⟨w.heap.size, 0, rfl, fun i hi => by
    have e : Y[i]? = some (.int .u8 (xs.getD i 0)) := by
      rw [← Array.getElem?_toList, hYl, List.getElem?_map, List.getElem?_eq_getElem hi]
      simp [List.getD, List.getElem?_eq_getElem hi]
    simp [World.cell?, hgY, e]⟩
  have hv1 : W1.cell? ⟨0, 0, none⟩ = some (.iface te pe) := (hb1.cell (World.block_lt_of_cell? _ _ hv)).trans hv
  clear hsrc hsrc1 hgY hYl hv hMs
  have HL : Hid (Lies W1 (some ⟨w.heap.size, 0, none⟩) xs) := hL1
  clear hL1
  go_enter Tryd.func3, Tryd.ntmps3
  go_wp2_with (go_at_call 4; refine (bytes_yes _ _ _ _ _ _ _ hl).mono ?_; rintro e w' ⟨rfl, rfl⟩)
  refine (zz_at _ _ _ n _ xs te pe _ rfl hx hn hl (Nat.le_refl _) HL.out hv1).mono ?_
  rintro e W2 ⟨rfl, hb2⟩
  have L2 : Hid (Lies W2 (some ⟨w.heap.size, 0, none⟩) xs) := HL.out.later hb2
  have hv2 : W2.cell? ⟨0, 0, none⟩ = some (.iface te pe) := (hb2.cell (World.block_lt_of_cell? _ _ hv1)).trans hv1
  have B2 : Hid (Below w.heap.size w W2) := hb1.trans (hb2.mono hb1.size)
  clear HL hv1 hb1 hb2 hcp hmk
  obtain ⟨G, hG⟩ : ∃ G, G = lowAt xs n := ⟨_, rfl⟩
  have HE : Hid (Calls Tryd.prog 6 #[.slice (some ⟨w.heap.size, 0, none⟩) len len, .int .i64 (n : Int)] W2 fun e w' => e = .returned (.bool G) ∧ W2 = w') := by
    rw [hG]; exact esc_at _ _ _ n xs _ hx hn hl (Nat.le_refl _) L2.out hb
  have HG : Hid (G = lowAt xs n) := hG
  rw [← hG]
  clear hG hb
  have HK2 : Hid (0 ≤ k → k ≤ (n : Int) → k ≤ (len : Int) → Calls Tryd.prog 5 #[.slice (if len = k.toNat then some ⟨w.heap.size, 0, none⟩ else some ⟨w.heap.size, k.toNat, none⟩) (len - k.toNat) (len - k.toNat), .int .i64 ((n : Int) - k)] W2 fun e w' => e = .returned (.bool G) ∧ Below W2.heap.size W2 w') := fun h2 h3 h4 => by
    have e := lowAt_drop xs n k.toNat (by omega) (by omega)
    rw [HG.out, ← e]
    refine zz_at _ _ _ (n - k.toNat) _ (xs.drop k.toNat) te pe _ (by omega) (by rw [List.length_drop]; omega) (by omega) (by omega) (Nat.le_refl _) (fun h => ?_) hv2
    rw [List.length_drop] at h
    obtain ⟨b, off, e2, hc⟩ := L2.out (by omega)
    simp only [Option.some.injEq, Addr.mk.injEq] at e2
    obtain ⟨rfl, rfl, _⟩ := e2
    refine ⟨w.heap.size, k.toNat, if_neg (by omega), fun i hi => ?_⟩
    rw [List.length_drop] at hi
    have := hc (k.toNat + i) (by omega)
    rw [Nat.zero_add] at this
    rw [this, List.getD_eq_getElem?_getD, List.getD_eq_getElem?_getD, List.getElem?_drop]
  have HM : Hid (∀ W, Lies W (some ⟨w.heap.size, 0, none⟩) xs → W.cell? ⟨0, 0, none⟩ = some (.iface te pe) → 0 ≤ m → m ≤ (len : Int) → Calls Tryd.prog 5 #[.slice (some ⟨w.heap.size, 0, none⟩) m.toNat len, .int .i64 (n : Int)] W fun e w' => e = .returned (.bool (G && decide ((n : Int) + 6 ≤ m))) ∧ Below W.heap.size W w') := fun W hL hvW h1 h2 => by
    have e := lowAt_take xs n m.toNat (by omega)
    have ed : decide (n + 6 ≤ m.toNat) = decide ((n : Int) + 6 ≤ m) := decide_eq_decide.2 (by omega)
    rw [ed] at e
    rw [HG.out, ← e]
    refine zz_at _ _ _ n _ (xs.take m.toNat) te pe _ rfl (by rw [List.length_take]; omega) (by omega) (by omega) (by omega) (fun h => ?_) hvW
    rw [List.length_take] at h
    obtain ⟨b, off, e2, hc⟩ := hL (by omega)
    refine ⟨b, off, e2, fun i hi => ?_⟩
    rw [List.length_take] at hi
    rw [hc i (by omega), List.getD_eq_getElem?_getD, List.getD_eq_getElem?_getD, List.getElem?_take_of_lt (by omega)]
  clear HG
  cases G
  all_goals
    go_wp2_with (first
      | (go_at_call 6; refine HE.out.mono ?_; rintro e w' ⟨rfl, rfl⟩)
      | (go_at_call_of 5 (m.toNat); go_must (refine (HM.out _ ?_ ?_ (by omega) (by omega)).mono ?_); (first | exact L3.out | exact L2.out); (first | exact hv3 | exact hv2); rintro e W4 ⟨rfl, hb4⟩)
      | (go_at_call_of 5 (k.toNat); go_must (refine (HK2.out (by omega) (by omega) (by omega)).mono ?_); rintro e W3 ⟨rfl, hb3⟩; have L3 : Hid (Lies W3 (some ⟨w.heap.size, 0, none⟩) xs) := L2.out.later hb3; have hv3 : W3.cell? ⟨0, 0, none⟩ = some (.iface te pe) := (hb3.cell (World.block_lt_of_cell? _ _ hv2)).trans hv2))
    all_goals
      go_ret
      refine ⟨rfl, ?_⟩
      first | exact (B2.out.trans (hb3.mono B2.out.size)).trans (hb4.mono (B2.out.trans (hb3.mono B2.out.size)).size) | exact B2.out.trans (hb4.mono B2.out.size) | exact B2.out.trans (hb3.mono B2.out.size) | exact B2.out

theorem zz_zero (p : Option Addr) (cap : Nat) (a : Int) (te : TypeId) (pe : Value) (w : World) (h0 : 0 ≤ a) (h1 : a ≤ 1073741824) :
    Calls Tryd.prog 5 #[.slice p 0 cap, .int .i64 a] w fun e w' => e = .returned (.bool false) ∧ w = w' := by
  obtain ⟨n, rfl⟩ := Int.eq_ofNat_of_zero_le h0
  have h := low_short p 0 cap n w (by omega) (by omega) (by omega)
  have HP : Hid (Calls Tryd.prog 7 #[.slice p 0 cap, .int .i64 (n : Int)] w fun e w' => e = .returned (.bool false) ∧ w = w') := h
  clear h
  go_enter Tryd.func5, Tryd.ntmps5
  go_wp2_with (go_at_call 7; refine HP.out.mono ?_; rintro e w' ⟨rfl, rfl⟩)
  go_ret
  exact ⟨rfl, rfl⟩

set_option maxHeartbeats 1000000 in
theorem law_nil (n : Nat) (k m : Int) (w : World) (hn : n ≤ 1073741824) :
    Calls Tryd.prog 3 #[.slice none 0 0, .int .i64 (n : Int), .int .i64 k, .int .i64 m] w fun e w' => e = .returned (.bool true) ∧ w = w' := by
  have HB : Hid (∀ a k m w, Calls Tryd.prog 4 #[.slice none 0 0, .int .i64 a, .int .i64 k, .int .i64 m] w fun e w' => e = .returned (.bool true) ∧ w = w') := fun a k m w => bytes_yes none 0 0 a k m w (by omega)
  have HZ : Hid (∀ (p : Option Addr) (cap : Nat) (a : Int) (w : World), 0 ≤ a → a ≤ 1073741824 → Calls Tryd.prog 5 #[.slice p 0 cap, .int .i64 a] w fun e w' => e = .returned (.bool false) ∧ w = w') := fun p cap a w => zz_zero p cap a 0 .nilIface w
  have HE : Hid (Calls Tryd.prog 6 #[.slice none 0 0, .int .i64 (n : Int)] w fun e w' => e = .returned (.bool false) ∧ w = w') := esc_short none 0 0 n w hn (by omega) (by omega)
  go_enter Tryd.func3, Tryd.ntmps3
  go_wp2_with (first
    | (go_at_call 4; refine (HB.out _ _ _ _).mono ?_; rintro e w' ⟨rfl, rfl⟩)
    | (go_at_call 6; refine HE.out.mono ?_; rintro e w' ⟨rfl, rfl⟩)
    | (go_at_call 5; go_must (refine (HZ.out _ _ _ _ (by omega) (by omega)).mono ?_); rintro e w' ⟨rfl, rfl⟩))
  all_goals
    go_ret
    exact ⟨rfl, rfl⟩
end Go.Proofs.Qxb6617315aDoor
