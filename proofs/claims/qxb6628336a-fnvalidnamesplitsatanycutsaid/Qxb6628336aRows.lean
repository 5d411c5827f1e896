/-
  No cell of these rows narrows 'for every input' (looked for: loops, veiled, ifaces, maps, wideKeys, modest, calm, conditions, laid).
  DERIVED. THE GIVEN ROWS OF THIS SEAT. 2 by the template 'for every input the law returns true; each argument reads behind the call as it read before'; 0 by the template 'total and deterministic' (their statements: Qxb6628336aTotals.lean).
  GIVEN WITH THE SEED: the statements are not yours to turn. If you find one false, say at which input.
  Laid BY PROGRAM, IN A SANDBOX (cutbox-rows.mjs): the forced cells as the released guide's own fill.sh prints them over the translation f57698fdb37276dd… (all of the seat's roots in one cut). By AI agents, Wed Nov 11 2026. No macro, syntax, notation, axiom, sorry.
-/
import Derived.Test.Qxb6628336aChecked
import GoSem.Claim
import GoSem.ClaimJoined
import GoSem.ClaimMapViews
import Derived.JoinedTies
import Derived.KernelRfl
namespace Go.Proofs.Qxb6628336a
/- THE CELL 'sum', in the pinned program and in every row, IS THE sha256 OF THE DUMP (.gsa) THAT Qxb6628336aProg.lean LOADS. Nothing in Lean hashes anything: it is a label: what it is worth is what the hold of that sum in a sandbox is worth. -/
noncomputable def Try.pinned : Pinned := { name := "qxb6628336a", sum := "f57698fdb37276dd5bf8746f6682994e72e2ad43c059bb89e9ec5ec24db34c0a", checked := Try.checked }
namespace Rows
def none {H : Type} : Left H := { results := [], args := [] }

/-- 'zzlaws_alert_b1.FnValidNameIsAsciiIdentifier': WHATEVER THE INPUT: true; the input reads as it did. -/
def fnValidNameIsAsciiIdentifierSpec : ChangeSpec := { name := "fnValidNameIsAsciiIdentifier", fn := fun _ => fun
  | [d] => { results := [.lit (.bool true)], args := [d] }
  | _ => none }
def fnValidNameIsAsciiIdentifierRow : OpenClaim := { program := "qxb6628336a", sum := "f57698fdb37276dd5bf8746f6682994e72e2ad43c059bb89e9ec5ec24db34c0a", func := "example.com/knellwarden/knellwarden/zzlaws_alert_b1.FnValidNameIsAsciiIdentifier", spec := "fnValidNameIsAsciiIdentifier", apart := false }
def FnValidNameIsAsciiIdentifierSaid : Prop := fnValidNameIsAsciiIdentifierRow.holds Try.pinned (OpenSpec.ofChange fnValidNameIsAsciiIdentifierSpec)

/-- ITS FALSE NEIGHBOUR: 'it returns false'. Refute it at one input. -/
def fnValidNameIsAsciiIdentifierWrong : ChangeSpec := { name := "fnValidNameIsAsciiIdentifier", fn := fun _ => fun
  | [d] => { results := [.lit (.bool false)], args := [d] }
  | _ => none }
def FnValidNameIsAsciiIdentifierWrongFalsely : Prop := fnValidNameIsAsciiIdentifierRow.holds Try.pinned (OpenSpec.ofChange fnValidNameIsAsciiIdentifierWrong)

/-- 'zzlaws_alert_b1.FnValidNameSplitsAtAnyCut': WHATEVER THE INPUT: true; the input reads as it did. -/
def fnValidNameSplitsAtAnyCutSpec : ChangeSpec := { name := "fnValidNameSplitsAtAnyCut", fn := fun _ => fun
  | [d1, d2] => { results := [.lit (.bool true)], args := [d1, d2] }
  | _ => none }
def fnValidNameSplitsAtAnyCutRow : OpenClaim := { program := "qxb6628336a", sum := "f57698fdb37276dd5bf8746f6682994e72e2ad43c059bb89e9ec5ec24db34c0a", func := "example.com/knellwarden/knellwarden/zzlaws_alert_b1.FnValidNameSplitsAtAnyCut", spec := "fnValidNameSplitsAtAnyCut", apart := false }
def FnValidNameSplitsAtAnyCutSaid : Prop := fnValidNameSplitsAtAnyCutRow.holds Try.pinned (OpenSpec.ofChange fnValidNameSplitsAtAnyCutSpec)

/-- ITS FALSE NEIGHBOUR: 'it returns false'. Refute it at one input. -/
def fnValidNameSplitsAtAnyCutWrong : ChangeSpec := { name := "fnValidNameSplitsAtAnyCut", fn := fun _ => fun
  | [d1, d2] => { results := [.lit (.bool false)], args := [d1, d2] }
  | _ => none }
def FnValidNameSplitsAtAnyCutWrongFalsely : Prop := fnValidNameSplitsAtAnyCutRow.holds Try.pinned (OpenSpec.ofChange fnValidNameSplitsAtAnyCutWrong)

end Rows
end Go.Proofs.Qxb6628336a
