/-
  THE WALKS of the error's road (the clone, the pointer to a NumError, toError), of strconv.ParseUint at base 16 and of jcs.hexRune (seat b6617315aD). After the shelf's texts, at this program's numbers.
-/
import Derived.Test.Qxb6617315aDoorParse
import Derived.Deep.OwnRows
import Derived.Deep.RegionWith
import Derived.Test.Qxb6617315aDoorShelf
import Derived.Lib.IfaceEq
import Derived.Lib.AtoiErrMem
namespace Go.Proofs.Qxb6617315aDoor
open Go.RowKit

theorem info5 : (Tryd.prog.info? 5).map (fun i => (i.zero, i.size, i.bytes)) = some (some (.int .u8 0), 1, 1) := by kernel_rfl
theorem size5 : (Tryd.prog.info? 5).map (·.size) = some 1 := by kernel_rfl
theorem cells5 : Tryd.prog.cellsOf 5 = 1 := by kernel_rfl
theorem comp33 : (Tryd.prog.info? 33).map (·.comparable) = some true := by kernel_rfl

theorem clone_any (s : ByteArray) (w : World) (hlim : s.size ≤ 1000000) :
    Calls Tryd.prog 19 #[.string s] w fun e w' => e = .returned (.string s) ∧ Below w.heap.size w w' := Tryd.stringslite_Clone s w (by omega)

set_option maxHeartbeats 2000000 in
set_option maxRecDepth 100000 in
theorem numError_any (fn s : ByteArray) (te : TypeId) (pe : Value) (w : World) (hlim : s.size ≤ 1000000) (hv : w.cell? ⟨0, 0, none⟩ = some (.iface te pe)) :
    Calls Tryd.prog 15 #[.string fn, .string s] w fun e w' => ∃ N, e = .returned (.pointer (some ⟨N, 0, none⟩)) ∧ Below w.heap.size w w' := by
  have hG : 0 < w.heap.size := Lib.lt_of_cell hv
  have hvd : w.drew.cell? ⟨0, 0, none⟩ = some (.iface te pe) := hv
  go_enter Tryd.func15, Tryd.ntmps15
  go_wp2
  go_region_with (
      go_at_call 19
      refine (clone_any s _ hlim).mono ?_
      rintro e w2 ⟨rfl, hbel⟩
      have hv2 : w2.cell? ⟨0, 0, none⟩ = some (.iface te pe) := (hbel.cell (show (⟨0, 0, none⟩ : Addr).block < w.drew.heap.size from hG)).trans hvd)
  all_goals (
    go_wp2
    go_ret
    have hs2 : w.heap.size ≤ w2.heap.size := hbel.size
    exact ⟨_, rfl, ((Below.drew (Below.refl _ w)).trans hbel).alloc hs2 _⟩)

set_option maxHeartbeats 2000000 in
set_option maxRecDepth 100000 in
theorem toError_any (fn s : ByteArray) (base bits : Int) (te : TypeId) (pe : Value) (w : World) (hlim : s.size ≤ 1000000) (hv : w.cell? ⟨0, 0, none⟩ = some (.iface te pe)) :
    Calls Tryd.prog 12 #[.string fn, .string s, .int .i64 base, .int .i64 bits, .iface 33 (.int .i64 2)] w fun e w' => ∃ N, e = .returned (.iface 37 (.pointer (some ⟨N, 0, none⟩))) ∧ Below w.heap.size w w' := by
  have heq : ∀ W, (binOp .eql 29 (.iface 33 (.int .i64 2)) (.iface 33 (.int .i64 2))).run Tryd.prog W = .ok (.bool true) W := fun W => Lib.run_eql_iface_int W 2 2 Tryd.underlying29 comp33 Tryd.underlying33
  go_enter Tryd.func12, Tryd.ntmps12
  go_wp2_with (go_at_call 15; refine (numError_any fn s te pe _ hlim ?_).mono ?_)
  · exact hv
  rintro e w2 ⟨N, rfl, h3⟩
  go_wp2
  go_ret
  exact ⟨N, rfl, h3⟩

theorem bytes_below (w : World) (s : ByteArray) : Below w.heap.size w (Lib.bytesWorld w 5 s) := Lib.bytesWorld_below _ _ _

/-- The number that hexRune hands back. -/
def hexN (o : Option Nat) : Nat := o.getD 0

set_option maxHeartbeats 2000000 in
set_option maxRecDepth 100000 in
theorem parse_any (s : ByteArray) (te : TypeId) (pe : Value) (w : World) (h0 : s.size ≠ 0) (hlim : s.size ≤ 4) (hv : w.cell? ⟨0, 0, none⟩ = some (.iface te pe)) :
    Calls Tryd.prog 10 #[.string s, .int .i64 16, .int .i64 16] w fun e w' => ∃ er, e = .returned (.tuple #[.int .u64 (hexN (hexp 0 s.data.toList) : Nat), er]) ∧ Below w.heap.size w w' := by
  have hG : 0 < w.heap.size := Lib.lt_of_cell hv
  have hI := parse_inner s h0 hlim w
  have hb1 := bytes_below w s
  generalize Lib.bytesWorld w 5 s = W1 at hI hb1
  have hv1 : W1.cell? ⟨0, 0, none⟩ = some (.iface te pe) := (hb1.cell (show (⟨0, 0, none⟩ : Addr).block < w.heap.size from hG)).trans hv
  cases hx : hexp 0 s.data.toList with
  | some n =>
    rw [hx] at hI
    have hI : Calls Tryd.prog 11 #[.string s, .int .i64 16, .int .i64 16] w fun e w' => e = .returned (.tuple #[.int .u64 n, .nilIface]) ∧ W1 = w' := hI.mono fun _ _ h => ⟨h.1, h.2.symm⟩
    clear hx
    go_enter Tryd.func10, Tryd.ntmps10
    go_wp2_with (go_at_call 11; refine hI.mono ?_; rintro e w' ⟨rfl, rfl⟩)
    go_ret2
    exact ⟨_, rfl, hb1⟩
  | none =>
    rw [hx] at hI
    have hI : Calls Tryd.prog 11 #[.string s, .int .i64 16, .int .i64 16] w fun e w' => e = .returned (.tuple #[.int .u64 0, .iface 33 (.int .i64 2)]) ∧ W1 = w' := hI.mono fun _ _ h => ⟨h.1, h.2.symm⟩
    clear hx
    go_enter Tryd.func10, Tryd.ntmps10
    go_wp2_with (go_at_call 11; refine hI.mono ?_; rintro e w' ⟨rfl, rfl⟩)
    go_wp2_with (go_at_call 12; refine (toError_any _ s 16 16 te pe _ (by omega) ?_).mono ?_)
    · exact hv1
    rintro e W2 ⟨N, rfl, h3⟩
    go_wp2
    go_ret2
    exact ⟨_, rfl, hb1.trans (h3.mono hb1.size)⟩
end Go.Proofs.Qxb6617315aDoor
