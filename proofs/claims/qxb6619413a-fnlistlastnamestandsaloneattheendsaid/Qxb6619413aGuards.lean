/-
  THE WALKS of the law's two size guards (seat b6619413a), and the lengths that they bound.
-/
import Derived.Test.Qxb6619413aProg
import Derived.WalkKit
import Derived.WalkSpells
import Derived.WalkLawsBesides
import Derived.KernelRfl
import Derived.Lib.Hide
namespace Go.Proofs.Qxb6619413a
open Go.RowKit
set_option linter.unusedVariables false
set_option linter.unusedSimpArgs false

/-- WHERE A SLICE OF TEXTS THAT CAME IN LIES. -/
def TextsIn (w : World) (p : Option Addr) (len : Nat) (ss : List ByteArray) : Prop :=
  0 < len → ∃ g off, p = some ⟨g, off, none⟩ ∧ ∀ i, i < len → w.cell? ⟨g, off + i, none⟩ = some (.string (ss.getD i ByteArray.empty))

theorem TextsIn.later {w w' : World} {p : Option Addr} {l : Nat} {ss : List ByteArray} (h : TextsIn w p l ss) (hb : Below w.heap.size w w') : TextsIn w' p l ss := by
  intro h0
  obtain ⟨g, off, rfl, hc⟩ := h h0
  exact ⟨g, off, rfl, fun i hi => (hb.cell (World.block_lt_of_cell? _ _ (hc i hi))).trans (hc i hi)⟩

def sumTo (ss : List ByteArray) : Nat → Nat
  | 0 => 0
  | i + 1 => sumTo ss i + (ss.getD i ByteArray.empty).size

/-- It returned a bool. -/
def RetB (e : Ending) : Prop := ∃ bb, e = .returned (.bool bb)
/-- It returned a bool; where it is true the lengths are bounded. -/
def RetW (l : Nat) (ss : List ByteArray) (x y : ByteArray) (e : Ending) : Prop := ∃ bb, e = .returned (.bool bb) ∧ (bb = true → l ≤ 65536 ∧ x.size ≤ 1048576 ∧ y.size ≤ 1048576 ∧ sumTo ss l ≤ 1048576)

set_option maxHeartbeats 1000000 in
theorem bytes_any (p : Option Addr) (l c : Nat) (ss : List ByteArray) (x y : ByteArray) (w : World) (hT : TextsIn w p l ss) :
    Calls Try.prog 4 #[.slice p l c, .string x, .string y] w fun e w' => RetB e ∧ w = w' := by
  have HT := Lib.hid hT
  clear hT
  by_cases h1 : 1048576 < l
  · go_enter Try.func4, Try.ntmps4
    go_wp2
    go_ret
    exact ⟨⟨_, rfl⟩, rfl⟩
  go_enter Try.func4, Try.ntmps4
  go_wp2
  go_loop [7, 8] (fun vn vi => ∃ (i : Nat) (n : Int), i ≤ l ∧ vi = .int .i64 i ∧ vn = .int .i64 n ∧ 0 ≤ n ∧ n ≤ 1048576) (fun _ vi => l - (intOf vi).toNat)
  case atStart => exact ⟨0, _, Nat.zero_le _, rfl, rfl, by omega, by omega⟩
  case round =>
    obtain ⟨i, n, hi, rfl, rfl, hn0, hn1⟩ := hrel
    by_cases hlt : i < l
    · obtain ⟨g, off, rfl, hcells⟩ := HT.out (by omega)
      have hc := hcells i hlt
      obtain ⟨s, hs⟩ : ∃ s, s = ss.getD i ByteArray.empty := ⟨_, rfl⟩
      rw [← hs] at hc
      clear hs hcells
      go_wp2
      all_goals first
        | (go_ret; exact ⟨⟨_, rfl⟩, rfl⟩)
        | (go_round
           case rel => exact ⟨i + 1, _, by omega, by go_num, rfl, by omega, by omega⟩
           case measure => simp [intOf]; omega)
    · go_wp2
      all_goals
        go_ret
        exact ⟨⟨_, rfl⟩, rfl⟩

set_option maxHeartbeats 1000000 in
theorem within_any (p : Option Addr) (l c : Nat) (ss : List ByteArray) (x y : ByteArray) (w : World) (hT : TextsIn w p l ss) :
    Calls Try.prog 5 #[.slice p l c, .string x, .string y] w fun e w' => RetW l ss x y e ∧ w = w' := by
  have HT := Lib.hid hT
  clear hT
  by_cases h1 : 1048576 < x.size
  · go_enter Try.func5, Try.ntmps5
    go_wp2
    all_goals
      go_ret
      exact ⟨⟨_, rfl, fun h => by cases h⟩, rfl⟩
  by_cases h2 : 1048576 < y.size
  · go_enter Try.func5, Try.ntmps5
    go_wp2
    all_goals
      go_ret
      exact ⟨⟨_, rfl, fun h => by cases h⟩, rfl⟩
  by_cases h3 : 65536 < l
  · go_enter Try.func5, Try.ntmps5
    go_wp2
    all_goals
      go_ret
      exact ⟨⟨_, rfl, fun h => by cases h⟩, rfl⟩
  by_cases h4 : 1048576 < x.size + y.size + 16 * l
  · go_enter Try.func5, Try.ntmps5
    go_wp2
    all_goals
      go_ret
      exact ⟨⟨_, rfl, fun h => by cases h⟩, rfl⟩
  go_enter Try.func5, Try.ntmps5
  go_wp2
  go_loop [7, 8] (fun vn vi => ∃ (i T : Nat), i ≤ l ∧ vi = .int .i64 i ∧ vn = .int .i64 T ∧ T ≤ 1048576 ∧ Hid (T = x.size + y.size + 16 * l + sumTo ss i)) (fun _ vi => l - (intOf vi).toNat)
  case atStart => exact ⟨0, x.size + y.size + 16 * l, Nat.zero_le _, rfl, by go_num, by omega, rfl⟩
  case round =>
    obtain ⟨i, T, hi, rfl, rfl, hT1, HA⟩ := hrel
    by_cases hlt : i < l
    · obtain ⟨g, off, rfl, hcells⟩ := HT.out (by omega)
      have hc := hcells i hlt
      have hsum : sumTo ss (i + 1) = sumTo ss i + (ss.getD i ByteArray.empty).size := rfl
      obtain ⟨s, hs⟩ : ∃ s, s = ss.getD i ByteArray.empty := ⟨_, rfl⟩
      rw [← hs] at hc hsum
      have HS := Lib.hid hsum
      clear hs hcells hsum
      go_wp2
      all_goals first
        | (go_ret; exact ⟨⟨_, rfl, fun h => by cases h⟩, rfl⟩)
        | (go_round
           case rel => exact ⟨i + 1, T + s.size, by omega, by go_num, by go_num, by omega, Lib.hid (by have := HA.out; have := HS.out; omega)⟩
           case measure => simp [intOf]; omega)
    · obtain rfl : i = l := by omega
      go_wp2
      go_ret
      exact ⟨⟨_, rfl, fun _ => ⟨by omega, by omega, by omega, by have := HA.out; omega⟩⟩, rfl⟩
end Go.Proofs.Qxb6619413a
