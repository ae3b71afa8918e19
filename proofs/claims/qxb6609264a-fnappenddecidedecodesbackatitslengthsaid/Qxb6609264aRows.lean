/-
  No cell of these rows narrows 'for every input' (looked for: loops, veiled, ifaces, maps, wideKeys, modest, calm, conditions, laid).
  DERIVED. THE GIVEN ROWS OF THIS SEAT. 1 by the template 'for every input the law returns true; each argument reads behind the call as it read before'; 0 by the template 'total and deterministic' (their statements: Qxb6609264aTotals.lean).
  GIVEN WITH THE SEED: the statements are not yours to turn. If you find one false, say at which input.
  Laid BY PROGRAM, IN A SANDBOX (cutbox-rows.mjs): the forced cells as the released guide's own fill.sh prints them over the translation 047bcbe2a9b0f968… (all of the seat's roots in one cut). By AI agents, Wed Nov 11 2026. No macro, syntax, notation, axiom, sorry.
-/
import Derived.Test.Qxb6609264aChecked
import GoSem.Claim
import GoSem.ClaimJoined
import GoSem.ClaimMapViews
import Derived.JoinedTies
import Derived.KernelRfl
namespace Go.Proofs.Qxb6609264a
/- THE CELL 'sum', in the pinned program and in every row, IS THE sha256 OF THE DUMP (.gsa) THAT Qxb6609264aProg.lean LOADS. Nothing in Lean hashes anything: it is a label: what it is worth is what the hold of that sum in a sandbox is worth. -/
noncomputable def Try.pinned : Pinned := { name := "qxb6609264a", sum := "047bcbe2a9b0f968d1d5c140d699a120f131a4838a147dca3942f70e6c04b6c6", checked := Try.checked }
namespace Rows
def none {H : Type} : Left H := { results := [], args := [] }

/-- 'zzlaws_internal_txn_b1.FnAppendDecideDecodesBackAtItsLength': WHATEVER THE INPUT: true; the input reads as it did. -/
def fnAppendDecideDecodesBackAtItsLengthSpec : ChangeSpec := { name := "fnAppendDecideDecodesBackAtItsLength", fn := fun _ => fun
  | [d1, d2, d3, d4, d5, d6, d7] => { results := [.lit (.bool true)], args := [d1, d2, d3, d4, d5, d6, d7] }
  | _ => none }
def fnAppendDecideDecodesBackAtItsLengthRow : OpenClaim := { program := "qxb6609264a", sum := "047bcbe2a9b0f968d1d5c140d699a120f131a4838a147dca3942f70e6c04b6c6", func := "example.com/slackline/slackline/zzlaws_internal_txn_b1.FnAppendDecideDecodesBackAtItsLength", spec := "fnAppendDecideDecodesBackAtItsLength", apart := false }
def FnAppendDecideDecodesBackAtItsLengthSaid : Prop := fnAppendDecideDecodesBackAtItsLengthRow.holds Try.pinned (OpenSpec.ofChange fnAppendDecideDecodesBackAtItsLengthSpec)

/-- ITS FALSE NEIGHBOUR: 'it returns false'. Refute it at one input. -/
def fnAppendDecideDecodesBackAtItsLengthWrong : ChangeSpec := { name := "fnAppendDecideDecodesBackAtItsLength", fn := fun _ => fun
  | [d1, d2, d3, d4, d5, d6, d7] => { results := [.lit (.bool false)], args := [d1, d2, d3, d4, d5, d6, d7] }
  | _ => none }
def FnAppendDecideDecodesBackAtItsLengthWrongFalsely : Prop := fnAppendDecideDecodesBackAtItsLengthRow.holds Try.pinned (OpenSpec.ofChange fnAppendDecideDecodesBackAtItsLengthWrong)

end Rows
end Go.Proofs.Qxb6609264a
