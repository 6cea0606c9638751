/-
  THE WALKS of the law's own reader isLowSurrogateEscape, isHexDigit (seat b6617315aD).
-/
import Derived.Test.Qxb6617315aDoorLow
import Derived.Deep.Light
namespace Go.Proofs.Qxb6617315aDoor
open Go.RowKit
set_option linter.unusedVariables false

def hexB (c : Int) : Bool := decide ((48 ≤ c ∧ c ≤ 57) ∨ (97 ≤ c ∧ c ≤ 102) ∨ (65 ≤ c ∧ c ≤ 70))

theorem hexDigit_any (c : Int) (w : World) (h0 : 0 ≤ c) (h1 : c ≤ 255) : Calls Tryd.prog 8 #[.int .u8 c] w fun e w' => e = .returned (.bool (hexB c)) ∧ w = w' := by
  go_enter Tryd.func8, Tryd.ntmps8
  go_wp2
  all_goals
    go_ret
    refine ⟨ret_bool ?_, rfl⟩
    rw [Bool.eq_iff_iff]
    simp [hexB]
    omega

/-- What isLowSurrogateEscape says of six bytes. -/
def escB (ys : List Int) : Bool :=
  decide (ys.getD 0 0 = 92 ∧ ys.getD 1 0 = 117 ∧ (ys.getD 2 0 = 100 ∨ ys.getD 2 0 = 68) ∧ ((99 ≤ ys.getD 3 0 ∧ ys.getD 3 0 ≤ 102) ∨ (67 ≤ ys.getD 3 0 ∧ ys.getD 3 0 ≤ 70))) && (hexB (ys.getD 4 0) && hexB (ys.getD 5 0))

theorem esc_split (y0 y1 y2 y3 y4 y5 : Int) : escB [y0, y1, y2, y3, y4, y5] = (decide (y0 = 92 ∧ y1 = 117 ∧ (y2 = 100 ∨ y2 = 68) ∧ ((99 ≤ y3 ∧ y3 ≤ 102) ∨ (67 ≤ y3 ∧ y3 ≤ 70))) && (hexB y4 && hexB y5)) := rfl

set_option maxHeartbeats 400000 in
theorem esc_short (p : Option Addr) (len cap : Nat) (n : Nat) (w : World) (hn : n ≤ 1073741824) (hl : len ≤ 1048576) (hs : len < n + 6) :
    Calls Tryd.prog 6 #[.slice p len cap, .int .i64 (n : Int)] w fun e w' => e = .returned (.bool false) ∧ w = w' := by
  go_enter Tryd.func6, Tryd.ntmps6
  go_wp2
  all_goals
    go_ret
    exact ⟨rfl, rfl⟩

set_option maxHeartbeats 2000000 in
theorem esc_long (b off len cap : Nat) (n : Nat) (y0 y1 y2 y3 y4 y5 : Int) (w : World) (hn : n ≤ 1073741824) (hl : len ≤ 1048576) (hs : n + 6 ≤ len) (hcap : len ≤ cap)
    (h0 : w.cell? ⟨b, off + n, none⟩ = some (.int .u8 y0)) (h1 : w.cell? ⟨b, off + (n + 1), none⟩ = some (.int .u8 y1)) (h2 : w.cell? ⟨b, off + (n + 2), none⟩ = some (.int .u8 y2))
    (h3 : w.cell? ⟨b, off + (n + 3), none⟩ = some (.int .u8 y3)) (h4 : w.cell? ⟨b, off + (n + 4), none⟩ = some (.int .u8 y4)) (h5 : w.cell? ⟨b, off + (n + 5), none⟩ = some (.int .u8 y5))
    (b4 : 0 ≤ y4 ∧ y4 ≤ 255) (b5 : 0 ≤ y5 ∧ y5 ≤ 255) :
    Calls Tryd.prog 6 #[.slice (some ⟨b, off, none⟩) len cap, .int .i64 (n : Int)] w fun e w' => e = .returned (.bool (escB [y0, y1, y2, y3, y4, y5])) ∧ w = w' := by
  obtain ⟨G, hG⟩ : ∃ G, G = escB [y0, y1, y2, y3, y4, y5] := ⟨_, rfl⟩
  rw [← hG]
  rw [esc_split] at hG
  have HG : Hid (G = (decide (y0 = 92 ∧ y1 = 117 ∧ (y2 = 100 ∨ y2 = 68) ∧ ((99 ≤ y3 ∧ y3 ≤ 102) ∨ (67 ≤ y3 ∧ y3 ≤ 70))) && (hexB y4 && hexB y5))) := hG
  clear hG
  go_enter Tryd.func6, Tryd.ntmps6
  go_wp2_with (go_at_call 8; refine (hexDigit_any _ _ (by omega) (by omega)).mono ?_; rintro e w' ⟨rfl, rfl⟩)
  all_goals
    go_ret
    refine ⟨ret_bool ?_, rfl⟩
    rw [HG.out]
    clear HG h0 h1 h2 h3 h4 h5
    go_light
    rw [Bool.eq_iff_iff]
    simp_all
    try omega
end Go.Proofs.Qxb6617315aDoor
