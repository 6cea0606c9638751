/-
  THE WALKS of strconv.FormatUint at base 16 and of the law's own zzHexDigit, zzAppendHex (seat b6617329aD).
-/
import Derived.Test.Qxb6617329aDoorHex
namespace Go.Proofs.Qxb6617329aDoor
open Go.RowKit
set_option linter.unusedVariables false
set_option linter.unusedSimpArgs false

theorem fmt_inner (u : Nat) (hu : u < 18446744073709551616) (w : World) (ht : w.cell? ⟨3, 15, none⟩ = some (.int .u8 4)) :
    Calls Tryd.prog 11 #[.int .u64 (u : Int), .int .i64 16] w fun e w' => e = .returned (.string ⟨(hex u).toArray⟩) ∧ Below w.heap.size w w' := by
  have H : Hid (Calls Tryd.prog 18 #[.slice none 0 0, .int .u64 (u : Int), .int .i64 16, .bool false, .bool false] w fun e w' => e = .returned (.tuple #[.slice none 0 0, .string ⟨(hex u).toArray⟩]) ∧ Below w.heap.size w w') := fmt_bits u hu w ht
  clear ht hu
  go_enter Tryd.func11, Tryd.ntmps11
  go_wp2_with (go_at_call 18; refine H.out.mono ?_; rintro e w' ⟨rfl, hb⟩)
  go_ret
  exact ⟨rfl, hb⟩

theorem fmt_uint (u : Nat) (hu : u < 18446744073709551616) (w : World) (ht : w.cell? ⟨3, 15, none⟩ = some (.int .u8 4)) :
    Calls Tryd.prog 9 #[.int .u64 (u : Int), .int .i64 16] w fun e w' => e = .returned (.string ⟨(hex u).toArray⟩) ∧ Below w.heap.size w w' := by
  have H : Hid (Calls Tryd.prog 11 #[.int .u64 (u : Int), .int .i64 16] w fun e w' => e = .returned (.string ⟨(hex u).toArray⟩) ∧ Below w.heap.size w w') := fmt_inner u hu w ht
  clear ht hu
  go_enter Tryd.func9, Tryd.ntmps9
  go_wp2_with (go_at_call 11; refine H.out.mono ?_; rintro e w' ⟨rfl, hb⟩)
  go_ret
  exact ⟨rfl, hb⟩

theorem ret_int {k : IntKind} {a b : Int} (h : a = b) : Ending.returned (.int k a) = .returned (.int k b) := by rw [h]

theorem hexDigit (d : Nat) (hd : d < 16) (w : World) : Calls Tryd.prog 8 #[.int .u64 (d : Int)] w fun e w' => e = .returned (.int .u8 (dig d : Nat)) ∧ w = w' := by
  by_cases h : d < 10
  · have e : dig d = 48 + d := by unfold dig; rw [if_pos h]
    go_enter Tryd.func8, Tryd.ntmps8
    go_wp2
    go_ret
    exact ⟨ret_int (by rw [e]; omega), rfl⟩
  · have e : dig d = 87 + d := by unfold dig; rw [if_neg h]
    go_enter Tryd.func8, Tryd.ntmps8
    go_wp2
    go_ret
    exact ⟨ret_int (by rw [e]; omega), rfl⟩

theorem info5 : (Tryd.prog.info? 5).map (fun i => (i.zero, i.size, i.bytes)) = some (some (.int .u8 0), 1, 1) := by kernel_rfl

/-- Bytes as cells. -/
def byteVals (l : List UInt8) : List Value := l.map fun b => Value.int .u8 (b.toNat : Int)
theorem byteVals_length (l : List UInt8) : (byteVals l).length = l.length := by simp [byteVals]
theorem byteVals_one (l : List UInt8) : ∀ u ∈ byteVals l, u.oneCell' = true := by
  intro u hu
  obtain ⟨b, _, rfl⟩ := List.mem_map.1 hu
  rfl
theorem byteVals_append (a b : List UInt8) : byteVals (a ++ b) = byteVals a ++ byteVals b := by simp [byteVals]

theorem zero35 : ∃ Z : Array Value, Z.size = 16 ∧ ∀ W, (zeroValue 35).run Tryd.prog W = .ok (.agg Z) W := ⟨Array.replicate 16 (.int .u8 0), by simp, fun W => by kernel_rfl⟩
theorem len35 : Tryd.prog.arrayLen 35 = 16 := by kernel_rfl
theorem elem35 : Tryd.prog.elem 35 = 5 := by kernel_rfl
theorem slice35 (f b : Nat) (hf2 : f < 16) (W : World) : (Instr.sliceAt 35 (.pointer (some ⟨b, 0, none⟩)) (some (.int .i64 (f : Int))) none none).run Tryd.prog W = .ok (.slice (some ⟨b, f, none⟩) (16 - f) (16 - f)) W := by
  rw [run_sliceAt_array_l W 35 ⟨b, 0, none⟩ (by rw [len35, elem35]; exact Tryd.underlying35) .i64 (f : Int) (by omega) (by rw [len35]; omega), elem35, len35]
  have e2 : (sizeOf 5).run Tryd.prog W = .ok 1 W := Tryd.sizeOf5 W
  rw [e2]
  have hne : ¬ 16 = f := by omega
  simp [Result.andThen, slicedAt, Addr.add, hne]
  omega

/-- What zzAppendHex's loop keeps. -/
structure AppInv (u x f : Nat) (cs : Array Value) : Prop where
  lt : x < 18446744073709551616
  fits : x < 16 ^ f
  done : ∃ l : List UInt8, hex u = (if x = 0 then [] else hexF f x) ++ l ∧ cs.toList.drop f = byteVals l

theorem appInv_start (u : Nat) (hu : u < 18446744073709551616) (h0 : u ≠ 0) (Z : Array Value) (hZ : Z.size = 16) : Hid (AppInv u u 16 Z) :=
  Lib.hid ⟨hu, by have : (16 : Nat) ^ 16 = 18446744073709551616 := by decide
                  omega, [], by rw [if_neg h0]; simp [hex], by rw [List.drop_of_length_le (by rw [Array.length_toList]; omega)]; rfl⟩

theorem appInv_step {u x f : Nat} {cs : Array Value} (hcs : cs.size = 16) (hf : f ≤ 16) (hx : x ≠ 0) (h : AppInv u x f cs) :
    1 ≤ f ∧ AppInv u (x / 16) (f - 1) (cs.setIfInBounds (f - 1) (.int .u8 (dig (x % 16) : Nat))) := by
  obtain ⟨h1, h2, l, h3, h4⟩ := h
  have hf1 : 1 ≤ f := by
    rcases Nat.eq_zero_or_pos f with h | h
    · subst h; simp at h2; omega
    · exact h
  obtain ⟨g, rfl⟩ : ∃ g, f = g + 1 := ⟨f - 1, by omega⟩
  refine ⟨hf1, by omega, ?_, UInt8.ofNat (dig (x % 16)) :: l, ?_, ?_⟩
  · rw [Nat.pow_succ] at h2
    simp only [Nat.add_sub_cancel]
    omega
  · rw [h3, if_neg hx]
    simp only [hexF, Nat.add_sub_cancel]
    by_cases h16 : x < 16
    · rw [if_pos h16, if_pos (by omega), Nat.mod_eq_of_lt h16]
      simp
    · rw [if_neg h16, if_neg (by omega)]
      simp
  · simp only [Nat.add_sub_cancel]
    have hd := dig_lt (show x % 16 < 16 by omega)
    have e8 : dig (x % 16) % 2 ^ 8 = dig (x % 16) := Nat.mod_eq_of_lt hd
    rw [drop_set cs g _ (by omega), h4]
    unfold byteVals
    rw [List.map_cons, UInt8.toNat_ofNat', e8]

theorem hexF_pos (f u : Nat) : 0 < (hexF (f + 1) u).length := by
  unfold hexF
  split <;> simp

theorem appInv_end {u f : Nat} {cs : Array Value} (hcs : cs.size = 16) (hf : f ≤ 16) (h : AppInv u 0 f cs) : f < 16 ∧ (hex u).length = 16 - f ∧ cs.toList.drop f = byteVals (hex u) := by
  obtain ⟨h1, h2, l, h3, h4⟩ := h
  rw [if_pos rfl, List.nil_append] at h3
  subst h3
  have hl := congrArg List.length h4
  rw [List.length_drop, Array.length_toList, byteVals_length, hcs] at hl
  have hp : 0 < (hex u).length := hexF_pos 15 u
  exact ⟨by omega, hl.symm, h4⟩

theorem new_cells (w : World) (cs : Array Value) (T f : Nat) (l : List Value) (h : cs.toList.drop f = l) : ∀ j u, l[j]? = some u → (w.alloc (.cells cs T)).cell? ((⟨w.heap.size, f, none⟩ : Addr).add j) = some u := by
  intro j u hj
  rw [← h, List.getElem?_drop, Array.getElem?_toList] at hj
  rw [Addr.add_lit]
  simp [hj]

set_option maxHeartbeats 1000000 in
theorem app_zero (B n : Nat) (v : Value) (xs : List Value) (w : World) (hown : w.ownsRow B 5 1 v n xs) (hB : B ≤ w.heap.size) (hn : n ≤ 1099511627776) :
    Calls Tryd.prog 6 #[v, .int .u64 0] w fun e w' => ∃ v', e = .returned v' ∧ w'.ownsRow B 5 1 v' (n + (hex 0).length) (xs ++ byteVals (hex 0)) ∧ Below B w w' := by
  obtain ⟨i0, hi, hz0, hz1, hz2⟩ := info_parts info5
  have hlt := hown.lt
  go_enter Tryd.func6, Tryd.ntmps6
  go_wp2_with (at_builtin; refine wpList_append_own _ rfl _ _ 29 rfl B 5 i0 (.int .u8 0) 1 1 Tryd.underlying29 hi hz0 hz1 hz2 rfl (by decide) _ _ _ rfl (hown.alloc _) ⟨w.heap.size, 0, none⟩ 1 1 [.int .u8 48] rfl rfl (cell_one_new _ _ _) (fun x hx => by simp at hx; subst hx; rfl) (by unfold maxLen; omega) (by omega) (by simp; omega) ?_; intro v' w1 hown1 hgrow1 hnil1)
  go_ret
  exact ⟨v', rfl, hown1, ((Below.refl B w).alloc hB _).grown hgrow1 (by simp; omega) (fun k hk => (hlt k hk).1)⟩

set_option maxHeartbeats 1000000 in
theorem app_pos (u : Nat) (hu : u < 18446744073709551616) (h0 : u ≠ 0) (B n : Nat) (v : Value) (xs : List Value) (w : World) (hown : w.ownsRow B 5 1 v n xs) (hB : B ≤ w.heap.size) (hn : n ≤ 1099511627776) :
    Calls Tryd.prog 6 #[v, .int .u64 (u : Int)] w fun e w' => ∃ v', e = .returned v' ∧ w'.ownsRow B 5 1 v' (n + (hex u).length) (xs ++ byteVals (hex u)) ∧ Below B w w' := by
  obtain ⟨i0, hi, hz0, hz1, hz2⟩ := info_parts info5
  obtain ⟨Z, hZs, hZ⟩ := zero35
  have hlt := hown.lt
  have hne : ((u : Int) == 0) = false := by simp; omega
  go_enter Tryd.func6, Tryd.ntmps6
  go_wp2
  go_loopw [1, 6] (fun vu vi wr => ∃ (x f : Nat) (cs : Array Value), vu = .int .u64 x ∧ vi = .int .i64 (f : Nat) ∧ wr = w.alloc (.cells cs 35) ∧ cs.size = 16 ∧ f ≤ 16 ∧ Hid (AppInv u x f cs)) (fun vu _ _ => (intOf vu).toNat)
  case atStart => exact ⟨u, 16, Z, rfl, rfl, rfl, hZs, by omega, appInv_start u hu h0 Z hZs⟩
  case round =>
    obtain ⟨x, f, cs, rfl, rfl, rfl, hcs, hf2, HI⟩ := hrel
    clear hZ hZs hne
    by_cases hx : x = 0
    · subst hx
      obtain ⟨hf, hlen, hdrop⟩ := appInv_end hcs hf2 HI.out
      have hsl : ∀ W, (Instr.sliceAt 35 (.pointer (some ⟨w.heap.size, 0, none⟩)) (some (.int .i64 (f : Int))) none none).run Tryd.prog W = .ok (.slice (some ⟨w.heap.size, f, none⟩) (16 - f) (16 - f)) W := fun W => slice35 f w.heap.size hf W
      have HL : Hid ((hex u).length = 16 - f) := hlen
      have HDR : Hid (cs.toList.drop f = byteVals (hex u)) := hdrop
      clear HI hlen hdrop
      go_wp2_with (at_builtin; refine wpList_append_own _ rfl _ _ 29 rfl B 5 i0 (.int .u8 0) 1 1 Tryd.underlying29 hi hz0 hz1 hz2 rfl (by decide) _ _ _ rfl (hown.alloc _) ⟨w.heap.size, f, none⟩ (16 - f) (16 - f) (byteVals (hex u)) rfl (by rw [byteVals_length, HL.out]; omega) (new_cells w cs 35 f _ HDR.out) (byteVals_one _) (by unfold maxLen; omega) (by omega) (by simp; omega) ?_; intro v' w1 hown1 hgrow1 hnil1)
      go_ret
      refine ⟨v', rfl, ?_, ((Below.refl B w).alloc hB _).grown hgrow1 (by simp; omega) (fun k hk => (hlt k hk).1)⟩
      rw [HL.out]
      exact hown1
    · have hS := appInv_step hcs hf2 hx HI.out
      have hf1 := hS.1
      have HS : Hid (AppInv u (x / 16) (f - 1) (cs.setIfInBounds (f - 1) (.int .u8 (dig (x % 16) : Nat)))) := hS.2
      have hand := and15 x HI.out.lt
      obtain ⟨d, hd⟩ : ∃ d, d = x % 16 := ⟨_, rfl⟩
      rw [← hd] at hand HS
      have HC : Hid (∀ W, Calls Tryd.prog 8 #[.int .u64 (d : Int)] W fun e w' => e = .returned (.int .u8 (dig d : Nat)) ∧ W = w') := fun W => hexDigit d (by omega) W
      have hne : ((x : Int) != 0) = true := by simp; omega
      obtain ⟨v0, hv0⟩ : ∃ v, cs[f - 1]? = some v := ⟨_, Array.getElem?_eq_getElem (by omega)⟩
      clear hd hS HI hu
      go_wp2_with (go_at_call 8; refine (HC.out _).mono ?_; rintro e w' ⟨rfl, rfl⟩)
      exact ⟨⟨x / 16, f - 1, _, by go_num, by rw [show ((f - 1 : Nat) : Int) = (f : Int) - 1 by omega], rfl, by simpa using hcs, by omega, HS⟩, by simp [intOf]; omega⟩
end Go.Proofs.Qxb6617329aDoor
