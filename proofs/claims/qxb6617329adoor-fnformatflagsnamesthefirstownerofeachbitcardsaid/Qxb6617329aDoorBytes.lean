/-
  THE WALK of the law's size guard zzBytes (seat b6617329aD).
-/
import Derived.Test.Qxb6617329aDoorProg
import Derived.Test.Qxb6617329aDoorPlain
import Derived.WalkKit
import Derived.WalkSpells
import Derived.WalkLawsBesides
import Derived.KernelRfl
import Derived.Lib.Hide
namespace Go.Proofs.Qxb6617329aDoor
open Go.RowKit
set_option linter.unusedVariables false
set_option linter.unusedSimpArgs false

/-- WHERE A SLICE OF TEXTS THAT CAME IN LIES. -/
def TextsIn (w : World) (p : Option Addr) (len : Nat) (ss : List ByteArray) : Prop :=
  0 < len → ∃ g off, p = some ⟨g, off, none⟩ ∧ ∀ i, i < len → w.cell? ⟨g, off + i, none⟩ = some (.string (ss.getD i ByteArray.empty))

/-- It returned a bool; where it is true no text has more than 1 MiB. -/
def RetB (lT : Nat) (ss : List ByteArray) (e : Ending) : Prop := ∃ bb, e = .returned (.bool bb) ∧ (bb = true → ∀ i, i < lT → (ss.getD i ByteArray.empty).size ≤ 1048576)

theorem size_next {ss : List ByteArray} {i : Nat} (h : ∀ j, j < i → (ss.getD j ByteArray.empty).size ≤ 1048576) (hi : (ss.getD i ByteArray.empty).size ≤ 1048576) : ∀ j, j < i + 1 → (ss.getD j ByteArray.empty).size ≤ 1048576 := by
  intro j hj
  by_cases e : j = i
  · subst e; exact hi
  · exact h j (by omega)

set_option maxHeartbeats 1000000 in
theorem bytes_any (b : Int) (pB pT : Option Addr) (lB lT cB cT : Nat) (ss : List ByteArray) (w : World) (hT : TextsIn w pT lT ss) :
    Calls Tryd.prog 4 #[.int .u64 b, .slice pB lB cB, .slice pT lT cT] w fun e w' => RetB lT ss e ∧ w = w' := by
  have HT := Lib.hid hT
  clear hT
  by_cases h1 : 1048576 < lB
  · go_enter Tryd.func4, Tryd.ntmps4
    go_wp2
    go_ret
    exact ⟨⟨_, rfl, fun h => by cases h⟩, rfl⟩
  by_cases h2 : 1048576 < lT
  · go_enter Tryd.func4, Tryd.ntmps4
    go_wp2
    go_ret
    exact ⟨⟨_, rfl, fun h => by cases h⟩, rfl⟩
  by_cases h3 : 1048576 < lB + lT
  · go_enter Tryd.func4, Tryd.ntmps4
    go_wp2
    go_ret
    exact ⟨⟨_, rfl, fun h => by cases h⟩, rfl⟩
  go_enter Tryd.func4, Tryd.ntmps4
  go_wp2
  go_loop [7, 8] (fun vn vi => ∃ (i : Nat) (n : Int), i ≤ lT ∧ vi = .int .i64 i ∧ vn = .int .i64 n ∧ 0 ≤ n ∧ n ≤ 1048576 ∧ Hid (∀ j, j < i → (ss.getD j ByteArray.empty).size ≤ 1048576)) (fun _ vi => lT - (intOf vi).toNat)
  case atStart => exact ⟨0, _, Nat.zero_le _, rfl, rfl, by omega, by omega, fun j hj => absurd hj (by omega)⟩
  case round =>
    obtain ⟨i, n, hi, rfl, rfl, hn0, hn1, HA⟩ := hrel
    by_cases hlt : i < lT
    · obtain ⟨g, off, rfl, hcells⟩ := HT.out (by omega)
      have hc := hcells i hlt
      obtain ⟨s, hs⟩ : ∃ s, s = ss.getD i ByteArray.empty := ⟨_, rfl⟩
      rw [← hs] at hc
      have HS := Lib.hid hs
      clear hs hcells
      go_wp2
      all_goals first
        | (go_ret; exact ⟨⟨_, rfl, fun h => by cases h⟩, rfl⟩)
        | (go_round
           case rel => exact ⟨i + 1, _, by omega, by go_num, rfl, by omega, by omega, Lib.hid (size_next HA.out (by rw [← HS.out]; omega))⟩
           case measure => simp [intOf]; omega)
    · obtain rfl : i = lT := by omega
      go_wp2
      go_ret
      exact ⟨⟨_, rfl, fun _ => HA.out⟩, rfl⟩
end Go.Proofs.Qxb6617329aDoor
