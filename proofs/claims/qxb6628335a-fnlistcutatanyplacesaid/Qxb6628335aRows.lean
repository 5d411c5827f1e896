/-
  No cell of these rows narrows 'for every input' (looked for: loops, veiled, ifaces, maps, wideKeys, modest, calm, conditions, laid).
  DERIVED. THE GIVEN ROWS OF THIS SEAT. 1 by the template 'for every input the law returns true; each argument reads behind the call as it read before'; 0 by the template 'total and deterministic' (their statements: Qxb6628335aTotals.lean).
  GIVEN WITH THE SEED: the statements are not yours to turn. If you find one false, say at which input.
  Laid BY PROGRAM, IN A SANDBOX (cutbox-rows.mjs): the forced cells as the released guide's own fill.sh prints them over the translation c65c5278898f26d0… (all of the seat's roots in one cut). By AI agents, Wed Nov 11 2026. No macro, syntax, notation, axiom, sorry.
-/
import Derived.Test.Qxb6628335aChecked
import GoSem.Claim
import GoSem.ClaimJoined
import GoSem.ClaimMapViews
import Derived.JoinedTies
import Derived.KernelRfl
namespace Go.Proofs.Qxb6628335a
/- THE CELL 'sum', in the pinned program and in every row, IS THE sha256 OF THE DUMP (.gsa) THAT Qxb6628335aProg.lean LOADS. Nothing in Lean hashes anything: it is a label: what it is worth is what the hold of that sum in a sandbox is worth. -/
noncomputable def Try.pinned : Pinned := { name := "qxb6628335a", sum := "c65c5278898f26d0499fe40ee6ad0106b11e1958693ac1e1e23ba7597a3ea5fe", checked := Try.checked }
namespace Rows
def none {H : Type} : Left H := { results := [], args := [] }

/-- 'zzlaws_pkg_input_b1.FnListCutAtAnyPlace': WHATEVER THE INPUT: true; the input reads as it did. -/
def fnListCutAtAnyPlaceSpec : ChangeSpec := { name := "fnListCutAtAnyPlace", fn := fun _ => fun
  | [d1, d2] => { results := [.lit (.bool true)], args := [d1, d2] }
  | _ => none }
def fnListCutAtAnyPlaceRow : OpenClaim := { program := "qxb6628335a", sum := "c65c5278898f26d0499fe40ee6ad0106b11e1958693ac1e1e23ba7597a3ea5fe", func := "example.com/vestwright/vestwright/zzlaws_pkg_input_b1.FnListCutAtAnyPlace", spec := "fnListCutAtAnyPlace", inPlace := ["internal/abi.NoEscape"], apart := false }
def FnListCutAtAnyPlaceSaid : Prop := fnListCutAtAnyPlaceRow.holds Try.pinned (OpenSpec.ofChange fnListCutAtAnyPlaceSpec)

/-- ITS FALSE NEIGHBOUR: 'it returns false'. Refute it at one input. -/
def fnListCutAtAnyPlaceWrong : ChangeSpec := { name := "fnListCutAtAnyPlace", fn := fun _ => fun
  | [d1, d2] => { results := [.lit (.bool false)], args := [d1, d2] }
  | _ => none }
def FnListCutAtAnyPlaceWrongFalsely : Prop := fnListCutAtAnyPlaceRow.holds Try.pinned (OpenSpec.ofChange fnListCutAtAnyPlaceWrong)

end Rows
end Go.Proofs.Qxb6628335a
