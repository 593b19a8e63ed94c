/-
  NARROWER THAN 'FOR EVERY INPUT', by the rows' own cells (each row's printed sentence says how): FnIsLogHostSplitsAtCharacterBoundary: laid · FnIsLogHostLetterOrSpaceInserted: laid.
  DERIVED. THE GIVEN ROWS OF THIS SEAT. 2 by the template 'for every input the law returns true; each argument reads behind the call as it read before'; 0 by the template 'total and deterministic' (their statements: Qxb6618505aDoorTotals.lean).
  GIVEN WITH THE SEED: the statements are not yours to turn. If you find one false, say at which input.
  Laid BY PROGRAM, IN A SANDBOX (cutbox-rows.mjs): the forced cells as the released guide's own fill.sh prints them over the translation b49212d212bb955e… (all of the seat's roots in one cut). By AI agents, Wed Nov 11 2026. No macro, syntax, notation, axiom, sorry.
-/
import Derived.Test.Qxb6618505aDoorChecked
import GoSem.Claim
import GoSem.ClaimJoined
import GoSem.ClaimMapViews
import Derived.JoinedTies
import Derived.KernelRfl
namespace Go.Proofs.Qxb6618505aDoor
/- THE CELL 'sum', in the pinned program and in every row, IS THE sha256 OF THE DUMP (.gsa) THAT Qxb6618505aDoorProg.lean LOADS. Nothing in Lean hashes anything: it is a label: what it is worth is what the hold of that sum in a sandbox is worth. -/
noncomputable def Tryd.pinned : Pinned := { name := "qxb6618505adoor", sum := "b49212d212bb955ec1638ceeae8360558d40de90a1216cfc40022d2f17cd5713", checked := Tryd.checked }
namespace Rows
def none {H : Type} : Left H := { results := [], args := [] }

/- WHAT THE LISTED PACKAGE-LEVEL VARIABLES READ AS WHEN THE CALL BEGINS. Each datum BY PROGRAM (the guide's laid-datum.mjs) off the statement by which the dump's own 'gosem.cut.vars' lays the variable. In a bare row this is a premise. The card (Qxb6618505aDoorCards.lean) ties it to the program's text. -/
def laid_unicode_White_Space {H : Type} : DataW H := .ptr (.agg [.slice [.agg [.lit (.int .u16 9), .lit (.int .u16 13), .lit (.int .u16 1)], .agg [.lit (.int .u16 32), .lit (.int .u16 133), .lit (.int .u16 101)], .agg [.lit (.int .u16 160), .lit (.int .u16 5760), .lit (.int .u16 5600)], .agg [.lit (.int .u16 8192), .lit (.int .u16 8202), .lit (.int .u16 1)], .agg [.lit (.int .u16 8232), .lit (.int .u16 8233), .lit (.int .u16 1)], .agg [.lit (.int .u16 8239), .lit (.int .u16 8287), .lit (.int .u16 48)], .agg [.lit (.int .u16 12288), .lit (.int .u16 12288), .lit (.int .u16 1)]] [], .nil, .lit (.int .i64 2)])

/-- 'zzlaws_root_b1.FnIsLogHostSplitsAtCharacterBoundary': WHATEVER THE INPUT: true; the input reads as it did. -/
def fnIsLogHostSplitsAtCharacterBoundarySpec : ChangeSpec := { name := "fnIsLogHostSplitsAtCharacterBoundary", fn := fun _ => fun
  | [d1, d2] => { results := [.lit (.bool true)], args := [d1, d2] }
  | _ => none }
def fnIsLogHostSplitsAtCharacterBoundaryRow : OpenClaim := { program := "qxb6618505adoor", sum := "b49212d212bb955ec1638ceeae8360558d40de90a1216cfc40022d2f17cd5713", func := "example.com/causeline/causeline/zzlaws_root_b1.FnIsLogHostSplitsAtCharacterBoundary", spec := "fnIsLogHostSplitsAtCharacterBoundary", unfollowed := true, recurses := true, named := ["unicode.White_Space"], apart := false, laid := [("unicode.White_Space", laid_unicode_White_Space)] }
def FnIsLogHostSplitsAtCharacterBoundarySaid : Prop := fnIsLogHostSplitsAtCharacterBoundaryRow.holds Tryd.pinned (OpenSpec.ofChange fnIsLogHostSplitsAtCharacterBoundarySpec)

/-- ITS FALSE NEIGHBOUR: 'it returns false'. Refute it at one input. -/
def fnIsLogHostSplitsAtCharacterBoundaryWrong : ChangeSpec := { name := "fnIsLogHostSplitsAtCharacterBoundary", fn := fun _ => fun
  | [d1, d2] => { results := [.lit (.bool false)], args := [d1, d2] }
  | _ => none }
def FnIsLogHostSplitsAtCharacterBoundaryWrongFalsely : Prop := fnIsLogHostSplitsAtCharacterBoundaryRow.holds Tryd.pinned (OpenSpec.ofChange fnIsLogHostSplitsAtCharacterBoundaryWrong)

/-- 'zzlaws_root_b1.FnIsLogHostLetterOrSpaceInserted': WHATEVER THE INPUT: true; the input reads as it did. -/
def fnIsLogHostLetterOrSpaceInsertedSpec : ChangeSpec := { name := "fnIsLogHostLetterOrSpaceInserted", fn := fun _ => fun
  | [d1, d2] => { results := [.lit (.bool true)], args := [d1, d2] }
  | _ => none }
def fnIsLogHostLetterOrSpaceInsertedRow : OpenClaim := { program := "qxb6618505adoor", sum := "b49212d212bb955ec1638ceeae8360558d40de90a1216cfc40022d2f17cd5713", func := "example.com/causeline/causeline/zzlaws_root_b1.FnIsLogHostLetterOrSpaceInserted", spec := "fnIsLogHostLetterOrSpaceInserted", unfollowed := true, recurses := true, named := ["unicode.White_Space"], apart := false, laid := [("unicode.White_Space", laid_unicode_White_Space)] }
def FnIsLogHostLetterOrSpaceInsertedSaid : Prop := fnIsLogHostLetterOrSpaceInsertedRow.holds Tryd.pinned (OpenSpec.ofChange fnIsLogHostLetterOrSpaceInsertedSpec)

/-- ITS FALSE NEIGHBOUR: 'it returns false'. Refute it at one input. -/
def fnIsLogHostLetterOrSpaceInsertedWrong : ChangeSpec := { name := "fnIsLogHostLetterOrSpaceInserted", fn := fun _ => fun
  | [d1, d2] => { results := [.lit (.bool false)], args := [d1, d2] }
  | _ => none }
def FnIsLogHostLetterOrSpaceInsertedWrongFalsely : Prop := fnIsLogHostLetterOrSpaceInsertedRow.holds Tryd.pinned (OpenSpec.ofChange fnIsLogHostLetterOrSpaceInsertedWrong)

end Rows
end Go.Proofs.Qxb6618505aDoor
