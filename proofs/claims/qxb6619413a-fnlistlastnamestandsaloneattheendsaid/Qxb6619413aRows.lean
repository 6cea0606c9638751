/-
  No cell of these rows narrows 'for every input' (looked for: loops, veiled, ifaces, maps, wideKeys, modest, calm, conditions, laid).
  DERIVED. THE GIVEN ROWS OF THIS SEAT. 1 by the template 'for every input the law returns true; each argument reads behind the call as it read before'; 0 by the template 'total and deterministic' (their statements: Qxb6619413aTotals.lean).
  GIVEN WITH THE SEED: the statements are not yours to turn. If you find one false, say at which input.
  Laid BY PROGRAM, IN A SANDBOX (cutbox-rows.mjs): the forced cells as the released guide's own fill.sh prints them over the translation 6d011c9f9804fa07… (all of the seat's roots in one cut). By AI agents, Wed Nov 11 2026. No macro, syntax, notation, axiom, sorry.
-/
import Derived.Test.Qxb6619413aChecked
import GoSem.Claim
import GoSem.ClaimJoined
import GoSem.ClaimMapViews
import Derived.JoinedTies
import Derived.KernelRfl
namespace Go.Proofs.Qxb6619413a
/- THE CELL 'sum', in the pinned program and in every row, IS THE sha256 OF THE DUMP (.gsa) THAT Qxb6619413aProg.lean LOADS. Nothing in Lean hashes anything: it is a label: what it is worth is what the hold of that sum in a sandbox is worth. -/
noncomputable def Try.pinned : Pinned := { name := "qxb6619413a", sum := "6d011c9f9804fa07b362cef3b99a24e9a5f6653f578035a5928761e773e2c365", checked := Try.checked }
namespace Rows
def none {H : Type} : Left H := { results := [], args := [] }

/-- 'zzlaws_internal_prose_b1.FnListLastNameStandsAloneAtTheEnd': WHATEVER THE INPUT: true; the input reads as it did. -/
def fnListLastNameStandsAloneAtTheEndSpec : ChangeSpec := { name := "fnListLastNameStandsAloneAtTheEnd", fn := fun _ => fun
  | [d1, d2, d3] => { results := [.lit (.bool true)], args := [d1, d2, d3] }
  | _ => none }
def fnListLastNameStandsAloneAtTheEndRow : OpenClaim := { program := "qxb6619413a", sum := "6d011c9f9804fa07b362cef3b99a24e9a5f6653f578035a5928761e773e2c365", func := "example.com/strata-kv/strata-kv/zzlaws_internal_prose_b1.FnListLastNameStandsAloneAtTheEnd", spec := "fnListLastNameStandsAloneAtTheEnd", inPlace := ["internal/abi.NoEscape", "internal/bytealg.MakeNoZero"], apart := false }
def FnListLastNameStandsAloneAtTheEndSaid : Prop := fnListLastNameStandsAloneAtTheEndRow.holds Try.pinned (OpenSpec.ofChange fnListLastNameStandsAloneAtTheEndSpec)

/-- ITS FALSE NEIGHBOUR: 'it returns false'. Refute it at one input. -/
def fnListLastNameStandsAloneAtTheEndWrong : ChangeSpec := { name := "fnListLastNameStandsAloneAtTheEnd", fn := fun _ => fun
  | [d1, d2, d3] => { results := [.lit (.bool false)], args := [d1, d2, d3] }
  | _ => none }
def FnListLastNameStandsAloneAtTheEndWrongFalsely : Prop := fnListLastNameStandsAloneAtTheEndRow.holds Try.pinned (OpenSpec.ofChange fnListLastNameStandsAloneAtTheEndWrong)

end Rows
end Go.Proofs.Qxb6619413a
