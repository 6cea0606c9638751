/-
  THE WALKS of jcs.hexRune, jcs.lowSurrogateAt, and of the law's own reader isLowSurrogateEscape (seat b6617315aD).
-/
import Derived.Test.Qxb6617315aDoorErr
import Derived.Laws.BytesArg
namespace Go.Proofs.Qxb6617315aDoor
open Go.RowKit

/-- The number that four bytes spell in base 16; 0 where one is no hex digit. -/
def rune4 (ys : List Int) : Nat := hexN (hexp 0 (strOfNums ys).data.toList)

theorem hexp_lt : ∀ (l : List UInt8) (acc n m : Nat), acc < 16 ^ m → hexp acc l = some n → n < 16 ^ (m + l.length)
  | [], acc, n, m, ha, h => by
    simp [hexp] at h
    subst h
    simpa using ha
  | c :: r, acc, n, m, ha, h => by
    unfold hexp at h
    split at h
    · cases h
    · rename_i d hd
      have h16 := hexd_lt hd
      have := hexp_lt r (acc * 16 + d) n (m + 1) (by rw [Nat.pow_succ]; omega) h
      simpa [Nat.add_assoc, Nat.add_comm, Nat.add_left_comm] using this

theorem rune4_lt (ys : List Int) (h : ys.length = 4) : rune4 ys ≤ 65535 := by
  unfold rune4 hexN
  cases hx : hexp 0 (strOfNums ys).data.toList with
  | none => simp
  | some n =>
    have := hexp_lt _ 0 n 0 (by simp) hx
    rw [strOfNums_data, List.length_map, h] at this
    simp
    omega

set_option maxHeartbeats 1000000 in
set_option maxRecDepth 100000 in
theorem hexRune_any (b off cap : Nat) (ys : List Int) (hl : ys.length = 4) (te : TypeId) (pe : Value) (w : World) (hc : ∀ i, i < 4 → w.cell? ⟨b, off + i, none⟩ = some (.int .u8 (ys.getD i 0)))
    (hv : w.cell? ⟨0, 0, none⟩ = some (.iface te pe)) :
    Calls Tryd.prog 9 #[.slice (some ⟨b, off, none⟩) 4 cap] w fun e w' => e = .returned (.int .i32 (rune4 ys : Nat)) ∧ Below w.heap.size w w' := by
  have hcv := run_convert_bytes_arg (P := Tryd.prog) w 22 5 Tryd.underlying22 Tryd.underlying5 b off 4 cap ys hl hc 9 Tryd.underlying9
  have hs : (strOfNums ys).size = 4 := by rw [strOfNums_size, hl]
  have hP := parse_any (strOfNums ys) te pe w (by omega) (by omega) hv
  have hr : (rune4 ys : Int) ≤ 65535 := by have := rune4_lt ys hl; omega
  have hr0 : 0 ≤ (rune4 ys : Int) := by omega
  change Calls Tryd.prog 10 _ w (fun e w' => ∃ er, e = .returned (.tuple #[.int .u64 (rune4 ys : Nat), er]) ∧ Below w.heap.size w w') at hP
  generalize (rune4 ys : Int) = r at hP hr hr0 ⊢
  generalize strOfNums ys = s at hP hcv
  clear hc hv hl hs
  have HP : Hid (Calls Tryd.prog 10 #[.string s, .int .i64 16, .int .i64 16] w (fun e w' => ∃ er, e = .returned (.tuple #[.int .u64 r, er]) ∧ Below w.heap.size w w')) := hP
  clear hP
  go_enter Tryd.func9, Tryd.ntmps9
  go_wp2_with (go_at_call 10; refine HP.out.mono ?_; rintro e w' ⟨er, rfl, hb⟩)
  go_ret
  exact ⟨rfl, hb⟩
end Go.Proofs.Qxb6617315aDoor
