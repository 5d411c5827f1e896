/-
  No cell of these rows narrows 'for every input' (looked for: loops, veiled, ifaces, maps, wideKeys, modest, calm, conditions, laid).
  DERIVED. THE GIVEN ROWS OF THIS SEAT. 2 by the template 'for every input the law returns true; each argument reads behind the call as it read before'; 0 by the template 'total and deterministic' (their statements: Qxb6628307aTotals.lean).
  GIVEN WITH THE SEED: the statements are not yours to turn. If you find one false, say at which input.
  Laid BY PROGRAM, IN A SANDBOX (cutbox-rows.mjs): the forced cells as the released guide's own fill.sh prints them over the translation 357d81f5e2331430… (all of the seat's roots in one cut). By AI agents, Wed Nov 11 2026. No macro, syntax, notation, axiom, sorry.
-/
import Derived.Test.Qxb6628307aChecked
import GoSem.Claim
import GoSem.ClaimJoined
import GoSem.ClaimMapViews
import Derived.JoinedTies
import Derived.KernelRfl
namespace Go.Proofs.Qxb6628307a
/- THE CELL 'sum', in the pinned program and in every row, IS THE sha256 OF THE DUMP (.gsa) THAT Qxb6628307aProg.lean LOADS. Nothing in Lean hashes anything: it is a label: what it is worth is what the hold of that sum in a sandbox is worth. -/
noncomputable def Try.pinned : Pinned := { name := "qxb6628307a", sum := "357d81f5e2331430d669dcc6d5f31d27620cce7c22a640e55381eb525c4a7051", checked := Try.checked }
namespace Rows
def none {H : Type} : Left H := { results := [], args := [] }

/-- 'zzlaws_token_b1.FnAppendBuildsListKeepsOldAndTallies': WHATEVER THE INPUT: true; the input reads as it did. -/
def fnAppendBuildsListKeepsOldAndTalliesSpec : ChangeSpec := { name := "fnAppendBuildsListKeepsOldAndTallies", fn := fun _ => fun
  | [d1, d2, d3, d4, d5] => { results := [.lit (.bool true)], args := [d1, d2, d3, d4, d5] }
  | _ => none }
def fnAppendBuildsListKeepsOldAndTalliesRow : OpenClaim := { program := "qxb6628307a", sum := "357d81f5e2331430d669dcc6d5f31d27620cce7c22a640e55381eb525c4a7051", func := "example.com/ringwright/ringwright/zzlaws_token_b1.FnAppendBuildsListKeepsOldAndTallies", spec := "fnAppendBuildsListKeepsOldAndTallies", recurses := true, apart := false }
def FnAppendBuildsListKeepsOldAndTalliesSaid : Prop := fnAppendBuildsListKeepsOldAndTalliesRow.holds Try.pinned (OpenSpec.ofChange fnAppendBuildsListKeepsOldAndTalliesSpec)

/-- ITS FALSE NEIGHBOUR: 'it returns false'. Refute it at one input. -/
def fnAppendBuildsListKeepsOldAndTalliesWrong : ChangeSpec := { name := "fnAppendBuildsListKeepsOldAndTallies", fn := fun _ => fun
  | [d1, d2, d3, d4, d5] => { results := [.lit (.bool false)], args := [d1, d2, d3, d4, d5] }
  | _ => none }
def FnAppendBuildsListKeepsOldAndTalliesWrongFalsely : Prop := fnAppendBuildsListKeepsOldAndTalliesRow.holds Try.pinned (OpenSpec.ofChange fnAppendBuildsListKeepsOldAndTalliesWrong)

/-- 'zzlaws_token_b1.FnAppendJumpsFollowSkewBinary': WHATEVER THE INPUT: true; the input reads as it did. -/
def fnAppendJumpsFollowSkewBinarySpec : ChangeSpec := { name := "fnAppendJumpsFollowSkewBinary", fn := fun _ => fun
  | [d] => { results := [.lit (.bool true)], args := [d] }
  | _ => none }
def fnAppendJumpsFollowSkewBinaryRow : OpenClaim := { program := "qxb6628307a", sum := "357d81f5e2331430d669dcc6d5f31d27620cce7c22a640e55381eb525c4a7051", func := "example.com/ringwright/ringwright/zzlaws_token_b1.FnAppendJumpsFollowSkewBinary", spec := "fnAppendJumpsFollowSkewBinary", recurses := true, apart := false }
def FnAppendJumpsFollowSkewBinarySaid : Prop := fnAppendJumpsFollowSkewBinaryRow.holds Try.pinned (OpenSpec.ofChange fnAppendJumpsFollowSkewBinarySpec)

/-- ITS FALSE NEIGHBOUR: 'it returns false'. Refute it at one input. -/
def fnAppendJumpsFollowSkewBinaryWrong : ChangeSpec := { name := "fnAppendJumpsFollowSkewBinary", fn := fun _ => fun
  | [d] => { results := [.lit (.bool false)], args := [d] }
  | _ => none }
def FnAppendJumpsFollowSkewBinaryWrongFalsely : Prop := fnAppendJumpsFollowSkewBinaryRow.holds Try.pinned (OpenSpec.ofChange fnAppendJumpsFollowSkewBinaryWrong)

end Rows
end Go.Proofs.Qxb6628307a
