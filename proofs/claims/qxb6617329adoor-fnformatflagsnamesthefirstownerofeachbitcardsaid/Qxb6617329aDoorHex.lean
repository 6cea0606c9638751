/-
  THE WALKS of the law's own hexadecimal (zzHexDigit, zzAppendHex) and of strconv.FormatUint at base 16 (seat b6617329aD).
-/
import Derived.Test.Qxb6617329aDoorProg
import Derived.Test.Qxb6617329aDoorPlain
import Derived.WalkKit
import Derived.WalkSpells
import Derived.WalkLawsBesides
import Derived.KernelRfl
import Derived.Lib.Hide
import Derived.Laws.BytesArg
namespace Go.Proofs.Qxb6617329aDoor
open Go.RowKit
set_option linter.unusedVariables false
set_option linter.unusedSimpArgs false

theorem cell?_alloc_old' {W : World} {a : Addr} {v : Value} (o : Obj) (h : W.cell? a = some v) : (W.alloc o).cell? a = some v :=
  (((Below.refl _ W).alloc (Nat.le_refl _) o).cell (World.block_lt_of_cell? _ _ h)).trans h

theorem tz64 (w : World) (ht : w.cell? ⟨3, 15, none⟩ = some (.int .u8 4)) : Calls Tryd.prog 29 #[.int .u64 16] w fun e w' => e = .returned (.int .i64 4) ∧ w = w' := by
  have h1 : bits .and .u64 16 (IntKind.u64.wrap (-16)) = 16 := by decide
  have h2 : IntKind.u64.wrap 4573923408821661840 = 4573923408821661840 := by rw [IntKind.wrap_u64]; omega
  go_enter Tryd.func29, Tryd.ntmps29
  go_wp2
  go_ret
  exact ⟨rfl, rfl⟩

theorem tz (w : World) (ht : w.cell? ⟨3, 15, none⟩ = some (.int .u8 4)) : Calls Tryd.prog 25 #[.int .u64 16] w fun e w' => e = .returned (.int .i64 4) ∧ w = w' := by
  have H : Hid (Calls Tryd.prog 29 #[.int .u64 16] w fun e w' => e = .returned (.int .i64 4) ∧ w = w') := tz64 w ht
  clear ht
  go_enter Tryd.func25, Tryd.ntmps25
  go_wp2_with (go_at_call 29; refine H.out.mono ?_; rintro e w' ⟨rfl, rfl⟩)
  go_ret
  exact ⟨rfl, rfl⟩

theorem pow2 (w : World) : Calls Tryd.prog 24 #[.int .i64 16] w fun e w' => e = .returned (.bool true) ∧ w = w' := by
  go_enter Tryd.func24, Tryd.ntmps24
  go_wp2
  go_ret
  exact ⟨rfl, rfl⟩

theorem zero59 : ∃ Z : Array Value, Z.size = 65 ∧ ∀ W, (zeroValue 59).run Tryd.prog W = .ok (.agg Z) W := ⟨Array.replicate 65 (.int .u8 0), by simp, fun W => by kernel_rfl⟩

/-- What formatBits' loop keeps: x is still to be written, f digits of it at most; behind place f + 49 the row holds the digits that are written. -/
structure HexInv (u x f : Nat) (cs : Array Value) : Prop where
  lt : x < 18446744073709551616
  fits : x < 16 ^ f
  done : ∃ l : List UInt8, hex u = hexF f x ++ l ∧ cs.toList.drop (f + 49) = l.map fun b => Value.int .u8 (b.toNat : Int)

theorem hexInv_start (u : Nat) (hu : u < 18446744073709551616) (Z : Array Value) (hZ : Z.size = 65) : Hid (HexInv u u 16 Z) :=
  Lib.hid ⟨hu, by have : (16 : Nat) ^ 16 = 18446744073709551616 := by decide
                  omega, [], by simp [hex], by rw [List.drop_of_length_le (by rw [Array.length_toList]; omega)]; rfl⟩

theorem and15 (x : Nat) (h : x < 18446744073709551616) : bits .and .u64 (x : Int) 15 = ((x % 16 : Nat) : Int) := by
  rw [show (15 : Int) = ((15 : Nat) : Int) from rfl, u64_and_nat x 15 h (by omega), nat_mask4]

/-- The digits' string. -/
def digits : ByteArray := ⟨#[48, 49, 50, 51, 52, 53, 54, 55, 56, 57, 97, 98, 99, 100, 101, 102, 103, 104, 105, 106, 107, 108, 109, 110, 111, 112, 113, 114, 115, 116, 117, 118, 119, 120, 121, 122]⟩

theorem idx16 : ∀ (d : Nat), d < 16 → ∀ W : World, (Instr.index 9 (.string ⟨#[48, 49, 50, 51, 52, 53, 54, 55, 56, 57, 97, 98, 99, 100, 101, 102, 103, 104, 105, 106, 107, 108, 109, 110, 111, 112, 113, 114, 115, 116, 117, 118, 119, 120, 121, 122]⟩) (.int .u64 (d : Int))).run Tryd.prog W = .ok (.int .u8 (dig d : Nat)) W := by
  intro d hd W
  have h : d = 0 ∨ d = 1 ∨ d = 2 ∨ d = 3 ∨ d = 4 ∨ d = 5 ∨ d = 6 ∨ d = 7 ∨ d = 8 ∨ d = 9 ∨ d = 10 ∨ d = 11 ∨ d = 12 ∨ d = 13 ∨ d = 14 ∨ d = 15 := by omega
  rcases h with rfl | rfl | rfl | rfl | rfl | rfl | rfl | rfl | rfl | rfl | rfl | rfl | rfl | rfl | rfl | rfl
  all_goals exact Eq.trans (by kernel_rfl) rfl

theorem dig_lt {d : Nat} (h : d < 16) : dig d < 256 := by unfold dig; split <;> omega

theorem drop_set (cs : Array Value) (k : Nat) (v : Value) (h : k < cs.size) : (cs.setIfInBounds k v).toList.drop k = v :: cs.toList.drop (k + 1) := by
  rw [Array.toList_setIfInBounds, List.drop_eq_getElem_cons (by simpa using h), List.getElem_set_self, List.drop_set_of_lt (by omega)]

theorem hexInv_step {u x f : Nat} {cs : Array Value} (hcs : cs.size = 65) (hf : f ≤ 16) (hx : 16 ≤ x) (h : HexInv u x f cs) :
    2 ≤ f ∧ HexInv u (x / 16) (f - 1) (cs.setIfInBounds (f + 48) (.int .u8 (dig (x % 16) : Nat))) := by
  obtain ⟨h1, h2, l, h3, h4⟩ := h
  have hf2 : 2 ≤ f := by
    rcases Nat.lt_or_ge f 2 with h | h
    · have : 16 ^ f ≤ 16 ^ 1 := Nat.pow_le_pow_right (by omega) (by omega)
      omega
    · exact h
  obtain ⟨g, rfl⟩ : ∃ g, f = g + 1 := ⟨f - 1, by omega⟩
  refine ⟨hf2, by omega, ?_, UInt8.ofNat (dig (x % 16)) :: l, ?_, ?_⟩
  · rw [Nat.pow_succ] at h2
    simp only [Nat.add_sub_cancel]
    omega
  · rw [h3]
    simp only [hexF, if_neg (show ¬ x < 16 by omega), Nat.add_sub_cancel]
    simp
  · simp only [Nat.add_sub_cancel]
    rw [show g + 1 + 48 = g + 49 by omega, drop_set cs (g + 49) _ (by omega)]
    have hd := dig_lt (show x % 16 < 16 by omega)
    have e8 : dig (x % 16) % 2 ^ 8 = dig (x % 16) := Nat.mod_eq_of_lt hd
    rw [show g + 49 + 1 = g + 1 + 49 by omega, h4, List.map_cons, UInt8.toNat_ofNat', e8]

theorem hexInv_end {u x f : Nat} {cs : Array Value} (hcs : cs.size = 65) (hf1 : 1 ≤ f) (hf : f ≤ 16) (hx : x < 16) (h : HexInv u x f cs) :
    (cs.setIfInBounds (f + 48) (.int .u8 (dig x : Nat))).toList.drop (f + 48) = (hex u).map fun b => Value.int .u8 (b.toNat : Int) := by
  obtain ⟨h1, h2, l, h3, h4⟩ := h
  obtain ⟨g, rfl⟩ : ∃ g, f = g + 1 := ⟨f - 1, by omega⟩
  rw [h3, drop_set cs (g + 1 + 48) _ (by omega), show g + 1 + 48 + 1 = g + 1 + 49 by omega, h4]
  simp only [hexF, if_pos hx]
  have := dig_lt hx
  rw [List.singleton_append, List.map_cons, UInt8.toNat_ofNat', show dig x % 2 ^ 8 = dig x from Nat.mod_eq_of_lt this]

theorem len59 : Tryd.prog.arrayLen 59 = 65 := by kernel_rfl
theorem elem59 : Tryd.prog.elem 59 = 5 := by kernel_rfl
theorem slice59 (f b : Nat) (hf1 : 1 ≤ f) (hf2 : f ≤ 16) (W : World) : (Instr.sliceAt 59 (.pointer (some ⟨b, 0, none⟩)) (some (.int .i64 ((f : Int) + 49 - 1))) none none).run Tryd.prog W = .ok (.slice (some ⟨b, f + 48, none⟩) (17 - f) (17 - f)) W := by
  rw [run_sliceAt_array_l W 59 ⟨b, 0, none⟩ (by rw [len59, elem59]; exact Tryd.underlying59) .i64 ((f : Int) + 49 - 1) (by omega) (by rw [len59]; omega), elem59, len59]
  have e1 : ((f : Int) + 49 - 1).toNat = f + 48 := by omega
  have e2 : (sizeOf 5).run Tryd.prog W = .ok 1 W := Tryd.sizeOf5 W
  rw [e1, e2]
  simp [Result.andThen, slicedAt, Addr.add]
  omega

theorem conv59 (w : World) (cs : Array Value) (f : Nat) (l : List UInt8) (hcs : cs.size = 65) (hf2 : f ≤ 16) (h : cs.toList.drop (f + 48) = l.map fun b => Value.int .u8 (b.toNat : Int)) :
    (convert 29 9 (.slice (some ⟨w.heap.size, f + 48, none⟩) (17 - f) (17 - f))).run Tryd.prog (w.alloc (.cells cs 59)) = .ok (.string ⟨l.toArray⟩) (w.alloc (.cells cs 59)) := by
  have hl : l.length = 17 - f := by
    have := congrArg List.length h
    simp at this
    omega
  have hc : ∀ i, i < 17 - f → (w.alloc (.cells cs 59)).cell? ⟨w.heap.size, f + 48 + i, none⟩ = some (.int .u8 ((l.map fun b => (b.toNat : Int)).getD i 0)) := fun i hi => by
    have e : cs[f + 48 + i]? = some (.int .u8 ((l.map fun b => (b.toNat : Int)).getD i 0)) := by
      rw [← Array.getElem?_toList, ← List.getElem?_drop, h, List.getElem?_map, List.getElem?_eq_getElem (by omega)]
      simp [List.getD, List.getElem?_eq_getElem (show i < l.length by omega)]
    simp [e]
  have := run_convert_bytes_arg (P := Tryd.prog) (w.alloc (.cells cs 59)) 29 5 Tryd.underlying29 Tryd.underlying5 w.heap.size (f + 48) (17 - f) (17 - f) (l.map fun b => (b.toNat : Int)) (by simpa using hl) hc 9 Tryd.underlying9
  rw [this]
  have e : strOfNums (l.map fun b => (b.toNat : Int)) = ⟨l.toArray⟩ := by
    unfold strOfNums
    congr 2
    rw [List.map_map]
    conv => rhs; rw [← List.map_id l]
    apply List.map_congr_left
    intro b _
    simp
  rw [e]

set_option maxHeartbeats 1000000 in
theorem fmt_bits (u : Nat) (hu : u < 18446744073709551616) (w : World) (ht : w.cell? ⟨3, 15, none⟩ = some (.int .u8 4)) :
    Calls Tryd.prog 18 #[.slice none 0 0, .int .u64 (u : Int), .int .i64 16, .bool false, .bool false] w fun e w' => e = .returned (.tuple #[.slice none 0 0, .string ⟨(hex u).toArray⟩]) ∧ Below w.heap.size w w' := by
  obtain ⟨Z, hZs, hZ⟩ := zero59
  have hz : ∀ o, (w.alloc o).cell? ⟨3, 15, none⟩ = some (.int .u8 4) := fun o => cell?_alloc_old' o ht
  go_enter Tryd.func18, Tryd.ntmps18
  go_wp2_with (first
    | (go_at_call 24; refine (pow2 _).mono ?_; rintro e w' ⟨rfl, rfl⟩)
    | (go_at_call 25; refine (tz _ ?_).mono ?_; exact hz _; rintro e w' ⟨rfl, rfl⟩))
  go_loopw [1, 13] (fun vu vi wr => ∃ (x f : Nat) (cs : Array Value), vu = .int .u64 x ∧ vi = .int .i64 (f + 49 : Nat) ∧ wr = w.alloc (.cells cs 59) ∧ cs.size = 65 ∧ 1 ≤ f ∧ f ≤ 16 ∧ Hid (HexInv u x f cs)) (fun vu _ _ => (intOf vu).toNat)
  case atStart => exact ⟨u, 16, Z, rfl, rfl, rfl, hZs, by omega, by omega, hexInv_start u hu Z hZs⟩
  case round =>
    obtain ⟨x, f, cs, rfl, rfl, rfl, hcs, hf1, hf2, HI⟩ := hrel
    clear hZ hZs
    by_cases hx : 16 ≤ x
    · have hand := and15 x HI.out.lt
      have hidx := idx16 (x % 16) (by omega)
      obtain ⟨d, hd⟩ : ∃ d, d = x % 16 := ⟨_, rfl⟩
      rw [← hd] at hand hidx
      have HD : Hid (d = x % 16) := hd
      clear hd hu
      obtain ⟨v0, hv0⟩ : ∃ v, cs[f + 48]? = some v := ⟨_, Array.getElem?_eq_getElem (by omega)⟩
      go_wp2
      have hS := hexInv_step hcs hf2 hx HI.out
      have hd := HD.out
      subst hd
      exact ⟨⟨x / 16, f - 1, _, by go_num, by rw [show ((f - 1 + 49 : Nat) : Int) = (f : Int) + 49 - 1 by omega], rfl, by simpa using hcs, by omega, by omega, hS.2⟩, by simp [intOf]; omega⟩
    · have hidx := idx16 x (by omega)
      obtain ⟨v0, hv0⟩ : ∃ v, cs[f + 48]? = some v := ⟨_, Array.getElem?_eq_getElem (by omega)⟩
      have HE : Hid ((cs.setIfInBounds (f + 48) (.int .u8 (dig x : Nat))).toList.drop (f + 48) = (hex u).map fun b => Value.int .u8 (b.toNat : Int)) := hexInv_end hcs hf1 hf2 (by omega) HI.out
      have hsl : ∀ W, (Instr.sliceAt 59 (.pointer (some ⟨w.heap.size, 0, none⟩)) (some (.int .i64 ((f : Int) + 49 - 1))) none none).run Tryd.prog W = .ok (.slice (some ⟨w.heap.size, f + 48, none⟩) (17 - f) (17 - f)) W := fun W => slice59 f w.heap.size hf1 hf2 W
      have hcv : (convert 29 9 (.slice (some ⟨w.heap.size, f + 48, none⟩) (17 - f) (17 - f))).run Tryd.prog (w.alloc (.cells (cs.setIfInBounds (f + 48) (.int .u8 (dig x : Nat))) 59)) = .ok (.string ⟨(hex u).toArray⟩) (w.alloc (.cells (cs.setIfInBounds (f + 48) (.int .u8 (dig x : Nat))) 59)) :=
        conv59 w _ f (hex u) (by simpa using hcs) hf2 HE.out
      clear HI hu HE
      go_wp2
      go_ret2
      exact ⟨rfl, (Below.refl _ _).alloc (Nat.le_refl _) _⟩
end Go.Proofs.Qxb6617329aDoor
