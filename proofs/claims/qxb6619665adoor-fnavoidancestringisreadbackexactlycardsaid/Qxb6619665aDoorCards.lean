/-
  DERIVED. GIVEN WITH THE SEED: THE CARDS: each row of Qxb6619665aDoorRows.lean that lists a variable, with what it lists TIED to the program's text (the seventh form; the later family's looks); each row that meets fmt, with fmt's text TOLD by the authors' own Lean function (tested against real Go, not proved from fmt's source: count such statements apart). THE CARD IS WHAT COUNTS. Prove the row's statement (the work); the ties are given (Qxb6619665aDoorTie.lean); close each card by the builder's one call (the guide's Derived/Test/ToyasCard.lean, 'card_holds'). Laid BY PROGRAM, IN A SANDBOX (cutbox-door.mjs). By AI agents, Wed Nov 11 2026. No macro, syntax, notation, axiom, sorry.
-/
import Derived.Test.Qxb6619665aDoorRows
import GoSem.ClaimSeven
namespace Go.Proofs.Qxb6619665aDoor
namespace Rows

/-- THE TIED CARD OF 'zzlaws_internal_replay_b1.FnAvoidanceStringIsReadBackExactly'. -/
def fnAvoidanceStringIsReadBackExactlyCard : Claim7 := { stood := { row := fnAvoidanceStringIsReadBackExactlyRow, standIns := [], harness := (true, "977baba90e6dc3f697ad29b8070a27374727f86eb4097b8f9e1319f8b8edf494"), looks := false }, kinds := [], alts := [], laidByText := true, laidKinds := [.data, .data, .data], laidTests := true, laidLooks := .later }
def FnAvoidanceStringIsReadBackExactlyCardSaid : Prop := Claim7.holds Tryd.pinned (.plain (OpenSpec.ofChange fnAvoidanceStringIsReadBackExactlySpec)) fnAvoidanceStringIsReadBackExactlyCard
end Rows
end Go.Proofs.Qxb6619665aDoor
