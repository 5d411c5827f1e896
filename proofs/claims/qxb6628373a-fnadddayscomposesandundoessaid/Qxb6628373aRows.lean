/-
  No cell of these rows narrows 'for every input' (looked for: loops, veiled, ifaces, maps, wideKeys, modest, calm, conditions, laid).
  DERIVED. THE GIVEN ROWS OF THIS SEAT. 2 by the template 'for every input the law returns true; each argument reads behind the call as it read before'; 0 by the template 'total and deterministic' (their statements: Qxb6628373aTotals.lean).
  GIVEN WITH THE SEED: the statements are not yours to turn. If you find one false, say at which input.
  Laid BY PROGRAM, IN A SANDBOX (cutbox-rows.mjs): the forced cells as the released guide's own fill.sh prints them over the translation 6cbde908c2b0f89e… (all of the seat's roots in one cut). By AI agents, Wed Nov 11 2026. No macro, syntax, notation, axiom, sorry.
-/
import Derived.Test.Qxb6628373aChecked
import GoSem.Claim
import GoSem.ClaimJoined
import GoSem.ClaimMapViews
import Derived.JoinedTies
import Derived.KernelRfl
namespace Go.Proofs.Qxb6628373a
/- THE CELL 'sum', in the pinned program and in every row, IS THE sha256 OF THE DUMP (.gsa) THAT Qxb6628373aProg.lean LOADS. Nothing in Lean hashes anything: it is a label: what it is worth is what the hold of that sum in a sandbox is worth. -/
noncomputable def Try.pinned : Pinned := { name := "qxb6628373a", sum := "6cbde908c2b0f89ee916ff3bd419a9d708d0e2bb2bab14d86da5f8e43bc79bb7", checked := Try.checked }
namespace Rows
def none {H : Type} : Left H := { results := [], args := [] }

/-- 'zzlaws_internal_date_b1.FnAddDaysMatchesDayNumberModel': WHATEVER THE INPUT: true; the input reads as it did. -/
def fnAddDaysMatchesDayNumberModelSpec : ChangeSpec := { name := "fnAddDaysMatchesDayNumberModel", fn := fun _ => fun
  | [d1, d2, d3, d4] => { results := [.lit (.bool true)], args := [d1, d2, d3, d4] }
  | _ => none }
def fnAddDaysMatchesDayNumberModelRow : OpenClaim := { program := "qxb6628373a", sum := "6cbde908c2b0f89ee916ff3bd419a9d708d0e2bb2bab14d86da5f8e43bc79bb7", func := "example.com/vestwright/vestwright/zzlaws_internal_date_b1.FnAddDaysMatchesDayNumberModel", spec := "fnAddDaysMatchesDayNumberModel", apart := false }
def FnAddDaysMatchesDayNumberModelSaid : Prop := fnAddDaysMatchesDayNumberModelRow.holds Try.pinned (OpenSpec.ofChange fnAddDaysMatchesDayNumberModelSpec)

/-- ITS FALSE NEIGHBOUR: 'it returns false'. Refute it at one input. -/
def fnAddDaysMatchesDayNumberModelWrong : ChangeSpec := { name := "fnAddDaysMatchesDayNumberModel", fn := fun _ => fun
  | [d1, d2, d3, d4] => { results := [.lit (.bool false)], args := [d1, d2, d3, d4] }
  | _ => none }
def FnAddDaysMatchesDayNumberModelWrongFalsely : Prop := fnAddDaysMatchesDayNumberModelRow.holds Try.pinned (OpenSpec.ofChange fnAddDaysMatchesDayNumberModelWrong)

/-- 'zzlaws_internal_date_b1.FnAddDaysComposesAndUndoes': WHATEVER THE INPUT: true; the input reads as it did. -/
def fnAddDaysComposesAndUndoesSpec : ChangeSpec := { name := "fnAddDaysComposesAndUndoes", fn := fun _ => fun
  | [d1, d2, d3, d4, d5] => { results := [.lit (.bool true)], args := [d1, d2, d3, d4, d5] }
  | _ => none }
def fnAddDaysComposesAndUndoesRow : OpenClaim := { program := "qxb6628373a", sum := "6cbde908c2b0f89ee916ff3bd419a9d708d0e2bb2bab14d86da5f8e43bc79bb7", func := "example.com/vestwright/vestwright/zzlaws_internal_date_b1.FnAddDaysComposesAndUndoes", spec := "fnAddDaysComposesAndUndoes", apart := false }
def FnAddDaysComposesAndUndoesSaid : Prop := fnAddDaysComposesAndUndoesRow.holds Try.pinned (OpenSpec.ofChange fnAddDaysComposesAndUndoesSpec)

/-- ITS FALSE NEIGHBOUR: 'it returns false'. Refute it at one input. -/
def fnAddDaysComposesAndUndoesWrong : ChangeSpec := { name := "fnAddDaysComposesAndUndoes", fn := fun _ => fun
  | [d1, d2, d3, d4, d5] => { results := [.lit (.bool false)], args := [d1, d2, d3, d4, d5] }
  | _ => none }
def FnAddDaysComposesAndUndoesWrongFalsely : Prop := fnAddDaysComposesAndUndoesRow.holds Try.pinned (OpenSpec.ofChange fnAddDaysComposesAndUndoesWrong)

end Rows
end Go.Proofs.Qxb6628373a
