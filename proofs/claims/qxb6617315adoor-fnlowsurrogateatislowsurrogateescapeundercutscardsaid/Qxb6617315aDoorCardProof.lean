/-
  THE CARD of seat b6617315aD: the row's proof, closed by the builder's one call.
-/
import Derived.Test.Qxb6617315aDoorRowProof
import Derived.Test.Qxb6617315aDoorTie
import Derived.Test.Qxb6617315aDoorCards
import Derived.SevenTiedAt
namespace Go.Proofs.Qxb6617315aDoor
open Go

theorem card_holds : Rows.FnLowSurrogateAtIsLowSurrogateEscapeUnderCutsCardSaid :=
  Claim7.holds_tied_plain_at .later [] [.data, .data, .data, .sentinel, .sentinel] true (true, "1efd908a6e0afe53533f639b036f323c7f0e03e3bfc872ba1f9d00ce346fe378") true
    over (fun _ h => by cases h) (by kernel_rfl) (fun _ h => by cases h) fnLowSurrogateAtIsLowSurrogateEscapeUnderCuts_row_tie rfl ⟨rfl, rfl⟩ (by kernel_rfl) rfl
    (fun f fn hf hfn => by
      obtain rfl : f = 3 := Option.some.inj ((show Tryd.prog.funcNamed Tryd.f3.name = some 3 by kernel_rfl).symm.trans hf) |>.symm
      obtain rfl : fn = Tryd.f3 := (Option.some.inj (Tryd.func3.symm.trans hfn)).symm
      exact ⟨by kernel_rfl, fun j t ht => by
        rw [Tryd.params3] at ht
        have hm : t ∈ [22, 3, 3, 3] := by simpa using Array.mem_of_getElem? ht
        have hall : ([22, 3, 3, 3].all fun u => !Tryd.prog.wantsStandIn u) = true := by kernel_rfl
        exact (show Tryd.prog.wantsStandIn t = false by simpa using List.all_eq_true.1 hall t hm)⟩)
    (by kernel_rfl)
end Go.Proofs.Qxb6617315aDoor
