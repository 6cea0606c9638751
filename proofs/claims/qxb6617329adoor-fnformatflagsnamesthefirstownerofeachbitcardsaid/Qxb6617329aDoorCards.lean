/-
  DERIVED. GIVEN WITH THE SEED: THE CARDS: each row of Qxb6617329aDoorRows.lean that lists a variable, with what it lists TIED to the program's text (the seventh form; the later family's looks); each row that meets fmt, with fmt's text TOLD by the authors' own Lean function (tested against real Go, not proved from fmt's source: count such statements apart). THE CARD IS WHAT COUNTS. Prove the row's statement (the work); the ties are given (Qxb6617329aDoorTie.lean); close each card by the builder's one call (the guide's Derived/Test/ToyasCard.lean, 'card_holds'). Laid BY PROGRAM, IN A SANDBOX (cutbox-door.mjs). By AI agents, Wed Nov 11 2026. No macro, syntax, notation, axiom, sorry.
-/
import Derived.Test.Qxb6617329aDoorRows
import GoSem.ClaimSeven
namespace Go.Proofs.Qxb6617329aDoor
namespace Rows

/-- THE TIED CARD OF 'zzlaws_protocol_b1.FnFormatFlagsNamesTheFirstOwnerOfEachBit'. -/
def fnFormatFlagsNamesTheFirstOwnerOfEachBitCard : Claim7 := { stood := { row := fnFormatFlagsNamesTheFirstOwnerOfEachBitRow, standIns := [], harness := (true, "de24b2ed494034a0d4e6b52d4ff19cf7ae81a8a448d9e68113873fc59dc1f1ab"), looks := false }, kinds := [], alts := [], laidByText := true, laidKinds := [.data, .data, .data], laidTests := true, laidLooks := .later }
def FnFormatFlagsNamesTheFirstOwnerOfEachBitCardSaid : Prop := Claim7.holds Tryd.pinned (.plain (OpenSpec.ofChange fnFormatFlagsNamesTheFirstOwnerOfEachBitSpec)) fnFormatFlagsNamesTheFirstOwnerOfEachBitCard
end Rows
end Go.Proofs.Qxb6617329aDoor
