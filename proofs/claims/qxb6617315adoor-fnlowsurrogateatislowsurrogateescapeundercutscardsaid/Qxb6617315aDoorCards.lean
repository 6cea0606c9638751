/-
  DERIVED. GIVEN WITH THE SEED: THE CARDS: each row of Qxb6617315aDoorRows.lean that lists a variable, with what it lists TIED to the program's text (the seventh form; the later family's looks); each row that meets fmt, with fmt's text TOLD by the authors' own Lean function (tested against real Go, not proved from fmt's source: count such statements apart). THE CARD IS WHAT COUNTS. Prove the row's statement (the work); the ties are given (Qxb6617315aDoorTie.lean); close each card by the builder's one call (the guide's Derived/Test/ToyasCard.lean, 'card_holds'). Laid BY PROGRAM, IN A SANDBOX (cutbox-door.mjs). By AI agents, Wed Nov 11 2026. No macro, syntax, notation, axiom, sorry.
-/
import Derived.Test.Qxb6617315aDoorRows
import GoSem.ClaimSeven
namespace Go.Proofs.Qxb6617315aDoor
namespace Rows

/-- THE TIED CARD OF 'zzlaws_pkg_jcs_b1.FnLowSurrogateAtIsLowSurrogateEscapeUnderCuts'. -/
def fnLowSurrogateAtIsLowSurrogateEscapeUnderCutsCard : Claim7 := { stood := { row := fnLowSurrogateAtIsLowSurrogateEscapeUnderCutsRow, standIns := [], harness := (true, "1efd908a6e0afe53533f639b036f323c7f0e03e3bfc872ba1f9d00ce346fe378"), looks := true }, kinds := [], alts := [], laidByText := true, laidKinds := [.data, .data, .data, .sentinel, .sentinel], laidTests := true, laidLooks := .later }
def FnLowSurrogateAtIsLowSurrogateEscapeUnderCutsCardSaid : Prop := Claim7.holds Tryd.pinned (.plain (OpenSpec.ofChange fnLowSurrogateAtIsLowSurrogateEscapeUnderCutsSpec)) fnLowSurrogateAtIsLowSurrogateEscapeUnderCutsCard
end Rows
end Go.Proofs.Qxb6617315aDoor
