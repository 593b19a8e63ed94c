/-
  No cell of these rows narrows 'for every input' (looked for: loops, veiled, ifaces, maps, wideKeys, modest, calm, conditions, laid).
  DERIVED. THE GIVEN ROWS OF THIS SEAT. 1 by the template 'for every input the law returns true; each argument reads behind the call as it read before'; 0 by the template 'total and deterministic' (their statements: Qxb6618560aTotals.lean).
  GIVEN WITH THE SEED: the statements are not yours to turn. If you find one false, say at which input.
  Laid BY PROGRAM, IN A SANDBOX (cutbox-rows.mjs): the forced cells as the released guide's own fill.sh prints them over the translation e301108bec70d850… (all of the seat's roots in one cut). By AI agents, Wed Nov 11 2026. No macro, syntax, notation, axiom, sorry.
-/
import Derived.Test.Qxb6618560aChecked
import GoSem.Claim
import GoSem.ClaimJoined
import GoSem.ClaimMapViews
import Derived.JoinedTies
import Derived.KernelRfl
namespace Go.Proofs.Qxb6618560a
/- THE CELL 'sum', in the pinned program and in every row, IS THE sha256 OF THE DUMP (.gsa) THAT Qxb6618560aProg.lean LOADS. Nothing in Lean hashes anything: it is a label: what it is worth is what the hold of that sum in a sandbox is worth. -/
noncomputable def Try.pinned : Pinned := { name := "qxb6618560a", sum := "e301108bec70d850dad0261b337a0104a41dfbec987cc1529bb90f53a7e3ccc5", checked := Try.checked }
namespace Rows
def none {H : Type} : Left H := { results := [], args := [] }

/-- 'zzlaws_internal_audit_b1.FnAddedLinesSplitBackInOrder': WHATEVER THE INPUT: true; the input reads as it did. -/
def fnAddedLinesSplitBackInOrderSpec : ChangeSpec := { name := "fnAddedLinesSplitBackInOrder", fn := fun _ => fun
  | [d1, d2] => { results := [.lit (.bool true)], args := [d1, d2] }
  | _ => none }
def fnAddedLinesSplitBackInOrderRow : OpenClaim := { program := "qxb6618560a", sum := "e301108bec70d850dad0261b337a0104a41dfbec987cc1529bb90f53a7e3ccc5", func := "example.com/marmot/marmot/zzlaws_internal_audit_b1.FnAddedLinesSplitBackInOrder", spec := "fnAddedLinesSplitBackInOrder", inPlace := ["sync.NewCond"], apart := false }
def FnAddedLinesSplitBackInOrderSaid : Prop := fnAddedLinesSplitBackInOrderRow.holds Try.pinned (OpenSpec.ofChange fnAddedLinesSplitBackInOrderSpec)

/-- ITS FALSE NEIGHBOUR: 'it returns false'. Refute it at one input. -/
def fnAddedLinesSplitBackInOrderWrong : ChangeSpec := { name := "fnAddedLinesSplitBackInOrder", fn := fun _ => fun
  | [d1, d2] => { results := [.lit (.bool false)], args := [d1, d2] }
  | _ => none }
def FnAddedLinesSplitBackInOrderWrongFalsely : Prop := fnAddedLinesSplitBackInOrderRow.holds Try.pinned (OpenSpec.ofChange fnAddedLinesSplitBackInOrderWrong)

end Rows
end Go.Proofs.Qxb6618560a
