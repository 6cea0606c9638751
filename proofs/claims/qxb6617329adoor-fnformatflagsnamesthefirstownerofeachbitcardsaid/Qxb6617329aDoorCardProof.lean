/-
  THE CARD of seat b6617329aD: the row's proof, closed by the builder's one call.
-/
import Derived.Test.Qxb6617329aDoorRowProof
import Derived.Test.Qxb6617329aDoorTie
import Derived.Test.Qxb6617329aDoorCards
import Derived.SevenTiedAt
namespace Go.Proofs.Qxb6617329aDoor
open Go

theorem card_holds : Rows.FnFormatFlagsNamesTheFirstOwnerOfEachBitCardSaid :=
  Claim7.holds_tied_plain_at .later [] [.data, .data, .data] true (true, "de24b2ed494034a0d4e6b52d4ff19cf7ae81a8a448d9e68113873fc59dc1f1ab") false
    over (fun _ h => by cases h) (by kernel_rfl) (fun _ h => by cases h) fnFormatFlagsNamesTheFirstOwnerOfEachBit_row_tie rfl ⟨rfl, rfl⟩ (by kernel_rfl) rfl
    (fun f fn hf hfn => by
      obtain rfl : f = 3 := Option.some.inj ((show Tryd.prog.funcNamed Tryd.f3.name = some 3 by kernel_rfl).symm.trans hf) |>.symm
      obtain rfl : fn = Tryd.f3 := (Option.some.inj (Tryd.func3.symm.trans hfn)).symm
      exact ⟨by kernel_rfl, fun j t ht => by
        rw [Tryd.params3] at ht
        have hm : t ∈ [22, 23, 24] := by simpa using Array.mem_of_getElem? ht
        have hall : ([22, 23, 24].all fun u => !Tryd.prog.wantsStandIn u) = true := by kernel_rfl
        exact (show Tryd.prog.wantsStandIn t = false by simpa using List.all_eq_true.1 hall t hm)⟩)
    (by kernel_rfl)
end Go.Proofs.Qxb6617329aDoor
