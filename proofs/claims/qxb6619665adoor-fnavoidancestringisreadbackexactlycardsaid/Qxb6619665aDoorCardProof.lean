/-
  THE CARD of seat b6619665aD: the row's proof, closed by the builder's one call.
-/
import Derived.Test.Qxb6619665aDoorRowProof
import Derived.Test.Qxb6619665aDoorTie
import Derived.Test.Qxb6619665aDoorCards
import Derived.SevenTiedAt
namespace Go.Proofs.Qxb6619665aDoor
open Go

theorem card_holds : Rows.FnAvoidanceStringIsReadBackExactlyCardSaid :=
  Claim7.holds_tied_plain_at .later [] [.data, .data, .data] true (true, "977baba90e6dc3f697ad29b8070a27374727f86eb4097b8f9e1319f8b8edf494") false
    over (fun _ h => by cases h) (by kernel_rfl) (fun _ h => by cases h) fnAvoidanceStringIsReadBackExactly_row_tie rfl ⟨rfl, rfl⟩ (by kernel_rfl) rfl
    (fun f fn hf hfn => by
      obtain rfl : f = 3 := Option.some.inj ((show Tryd.prog.funcNamed Tryd.f3.name = some 3 by kernel_rfl).symm.trans hf) |>.symm
      obtain rfl : fn = Tryd.f3 := (Option.some.inj (Tryd.func3.symm.trans hfn)).symm
      exact ⟨by kernel_rfl, fun j t ht => by
        rw [Tryd.params3] at ht
        have hm : t ∈ [5, 5] := by simpa using Array.mem_of_getElem? ht
        have hall : ([5, 5].all fun u => !Tryd.prog.wantsStandIn u) = true := by kernel_rfl
        exact (show Tryd.prog.wantsStandIn t = false by simpa using List.all_eq_true.1 hall t hm)⟩)
    (by kernel_rfl)
end Go.Proofs.Qxb6619665aDoor
