/-
  THE WALKS of jcs.lowSurrogateAt and ZZlowSurrogateAt (seat b6617315aD).
-/
import Derived.Test.Qxb6617315aDoorRune
namespace Go.Proofs.Qxb6617315aDoor
open Go.RowKit
set_option linter.unusedVariables false

set_option maxHeartbeats 400000 in
theorem low_short (p : Option Addr) (len cap : Nat) (n : Nat) (w : World) (hn : n ≤ 1073741824) (_hl : len ≤ 1048576) (hs : len < n + 6) :
    Calls Tryd.prog 7 #[.slice p len cap, .int .i64 (n : Int)] w fun e w' => e = .returned (.bool false) ∧ w = w' := by
  go_enter Tryd.func7, Tryd.ntmps7
  go_wp2
  go_ret
  exact ⟨rfl, rfl⟩

theorem ret_bool {a b : Bool} (h : a = b) : Ending.returned (.bool a) = .returned (.bool b) := by rw [h]

/-- What lowSurrogateAt says of six bytes. -/
def lowB (ys : List Int) : Bool := ys.getD 0 0 == 92 && (ys.getD 1 0 == 117 && decide (56320 ≤ rune4 (ys.drop 2) ∧ rune4 (ys.drop 2) ≤ 57343))

set_option maxHeartbeats 1000000 in
theorem low_long (b off len cap : Nat) (n : Nat) (y0 y1 y2 y3 y4 y5 : Int) (te : TypeId) (pe : Value) (w : World) (hn : n ≤ 1073741824) (hl : len ≤ 1048576) (hs : n + 6 ≤ len) (hcap : len ≤ cap)
    (h0 : w.cell? ⟨b, off + n, none⟩ = some (.int .u8 y0)) (h1 : w.cell? ⟨b, off + (n + 1), none⟩ = some (.int .u8 y1))
    (hc : ∀ i, i < 4 → w.cell? ⟨b, off + (n + 2) + i, none⟩ = some (.int .u8 ([y2, y3, y4, y5].getD i 0)))
    (hv : w.cell? ⟨0, 0, none⟩ = some (.iface te pe)) :
    Calls Tryd.prog 7 #[.slice (some ⟨b, off, none⟩) len cap, .int .i64 (n : Int)] w fun e w' => e = .returned (.bool (lowB [y0, y1, y2, y3, y4, y5])) ∧ Below w.heap.size w w' := by
  have hR := fun cap => hexRune_any b (off + (n + 2)) cap [y2, y3, y4, y5] rfl te pe w hc hv
  clear hc hv
  by_cases e0 : y0 = 92
  · by_cases e1 : y1 = 117
    · have hr : (rune4 [y2, y3, y4, y5] : Int) ≤ 65535 := by have := rune4_lt [y2, y3, y4, y5] rfl; omega
      have hB : lowB [y0, y1, y2, y3, y4, y5] = decide (56320 ≤ (rune4 [y2, y3, y4, y5] : Int) ∧ (rune4 [y2, y3, y4, y5] : Int) ≤ 57343) := by
        subst e0 e1
        have e1 : ((56320 : Nat) ≤ rune4 [y2, y3, y4, y5] ∧ rune4 [y2, y3, y4, y5] ≤ 57343) ↔ (56320 ≤ (rune4 [y2, y3, y4, y5] : Int) ∧ (rune4 [y2, y3, y4, y5] : Int) ≤ 57343) := by omega
        show (true && (true && decide _)) = _
        simp only [Bool.true_and]
        exact decide_eq_decide.2 e1
      rw [hB]
      subst e0 e1
      generalize (rune4 [y2, y3, y4, y5] : Int) = r at hR hr ⊢
      have HP : Hid (∀ cap, Calls Tryd.prog 9 #[.slice (some ⟨b, off + (n + 2), none⟩) 4 cap] w (fun e w' => e = .returned (.int .i32 r) ∧ Below w.heap.size w w')) := hR
      clear hR hB
      go_enter Tryd.func7, Tryd.ntmps7
      go_wp2_with (go_at_call 9; refine (HP.out _).mono ?_; rintro e w' ⟨rfl, hb⟩)
      all_goals
        go_ret
        refine ⟨ret_bool ?_, hb⟩
        first | (simp; omega) | (simp; done)
    · have e1' : (y1 != 117) = true := by simp [e1]
      have hB : lowB [y0, y1, y2, y3, y4, y5] = false := by simp [lowB, e1]
      rw [hB]
      subst e0
      clear hR hB
      go_enter Tryd.func7, Tryd.ntmps7
      go_wp2
      all_goals
        go_ret
        exact ⟨rfl, Below.refl _ _⟩
  · have e0' : (y0 != 92) = true := by simp [e0]
    have hB : lowB [y0, y1, y2, y3, y4, y5] = false := by simp [lowB, e0]
    rw [hB]
    clear hR hB
    go_enter Tryd.func7, Tryd.ntmps7
    go_wp2
    all_goals
      go_ret
      exact ⟨rfl, Below.refl _ _⟩

/-- WHERE A SLICE OF BYTES LIES: its cells, wherever it has one. -/
def Lies (w : World) (p : Option Addr) (xs : List Int) : Prop :=
  0 < xs.length → ∃ b off, p = some ⟨b, off, none⟩ ∧ ∀ i, i < xs.length → w.cell? ⟨b, off + i, none⟩ = some (.int .u8 (xs.getD i 0))

def six (xs : List Int) (n : Nat) : List Int := [xs.getD n 0, xs.getD (n + 1) 0, xs.getD (n + 2) 0, xs.getD (n + 3) 0, xs.getD (n + 4) 0, xs.getD (n + 5) 0]

/-- What lowSurrogateAt says of a row of bytes. -/
def lowAt (xs : List Int) (n : Nat) : Bool := if n + 6 ≤ xs.length then lowB (six xs n) else false

theorem low_any (p : Option Addr) (len cap n : Nat) (xs : List Int) (te : TypeId) (pe : Value) (w : World) (hx : xs.length = len) (hn : n ≤ 1073741824) (hl : len ≤ 1048576) (hcap : len ≤ cap)
    (hc : Lies w p xs) (hv : w.cell? ⟨0, 0, none⟩ = some (.iface te pe)) :
    Calls Tryd.prog 7 #[.slice p len cap, .int .i64 (n : Int)] w fun e w' => e = .returned (.bool (lowAt xs n)) ∧ Below w.heap.size w w' := by
  by_cases hs : n + 6 ≤ len
  · obtain ⟨b, off, rfl, hcell⟩ := hc (by omega)
    have e : lowAt xs n = lowB (six xs n) := by unfold lowAt; rw [if_pos (by omega)]
    rw [e]
    refine low_long b off len cap n _ _ _ _ _ _ te pe w hn hl hs hcap (hcell n (by omega)) (hcell (n + 1) (by omega)) (fun i hi => ?_) hv
    have := hcell (n + 2 + i) (by omega)
    rw [Nat.add_assoc, this]
    match i, hi with
    | 0, _ => rfl
    | 1, _ => rfl
    | 2, _ => rfl
    | 3, _ => rfl
  · have e : lowAt xs n = false := by unfold lowAt; rw [if_neg (by omega)]
    rw [e]
    exact (low_short p len cap n w hn hl (by omega)).mono fun _ _ h => ⟨h.1, h.2 ▸ Below.refl _ _⟩

theorem zz_any (p : Option Addr) (len cap n : Nat) (xs : List Int) (te : TypeId) (pe : Value) (w : World) (hx : xs.length = len) (hn : n ≤ 1073741824) (hl : len ≤ 1048576) (hcap : len ≤ cap)
    (hc : Lies w p xs) (hv : w.cell? ⟨0, 0, none⟩ = some (.iface te pe)) :
    Calls Tryd.prog 5 #[.slice p len cap, .int .i64 (n : Int)] w fun e w' => e = .returned (.bool (lowAt xs n)) ∧ Below w.heap.size w w' := by
  have h := low_any p len cap n xs te pe w hx hn hl hcap hc hv
  generalize lowAt xs n = r at h ⊢
  have HP : Hid (Calls Tryd.prog 7 #[.slice p len cap, .int .i64 (n : Int)] w fun e w' => e = .returned (.bool r) ∧ Below w.heap.size w w') := h
  clear h hc hv hx
  go_enter Tryd.func5, Tryd.ntmps5
  go_wp2_with (go_at_call 7; refine HP.out.mono ?_; rintro e w' ⟨rfl, hb⟩)
  go_ret
  exact ⟨rfl, hb⟩
end Go.Proofs.Qxb6617315aDoor
