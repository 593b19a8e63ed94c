/-
  No cell of these rows narrows 'for every input' (looked for: loops, veiled, ifaces, maps, wideKeys, modest, calm, conditions, laid).
  DERIVED. THE GIVEN ROWS OF THIS SEAT. 2 by the template 'for every input the law returns true; each argument reads behind the call as it read before'; 0 by the template 'total and deterministic' (their statements: Qxb6619000aFmtTotals.lean).
  GIVEN WITH THE SEED: the statements are not yours to turn. If you find one false, say at which input.
  Laid BY PROGRAM, IN A SANDBOX (cutbox-rows.mjs): the forced cells as the released guide's own fill.sh prints them over the translation 429ae21bf830a2ef… (all of the seat's roots in one cut). By AI agents, Wed Nov 11 2026. No macro, syntax, notation, axiom, sorry.
-/
import Derived.Test.Qxb6619000aFmtChecked
import GoSem.Claim
import GoSem.ClaimJoined
import GoSem.ClaimMapViews
import Derived.JoinedTies
import Derived.KernelRfl
namespace Go.Proofs.Qxb6619000aFmt
/- THE CELL 'sum', in the pinned program and in every row, IS THE sha256 OF THE DUMP (.gsa) THAT Qxb6619000aFmtProg.lean LOADS. Nothing in Lean hashes anything: it is a label: what it is worth is what the hold of that sum in a sandbox is worth. -/
noncomputable def Tryf.pinned : Pinned := { name := "qxb6619000afmt", sum := "429ae21bf830a2ef500c6a5e849eff7ebc2a2dc379d35f8130b5fe7bce724738", checked := Tryf.checked }
namespace Rows
def none {H : Type} : Left H := { results := [], args := [] }

/-- 'zzlaws_root_b1.FnDisallowNonFiniteFloatsCommutesWithLimits': WHATEVER THE INPUT: true; the input reads as it did. -/
def fnDisallowNonFiniteFloatsCommutesWithLimitsSpec : ChangeSpec := { name := "fnDisallowNonFiniteFloatsCommutesWithLimits", fn := fun _ => fun
  | [d1, d2] => { results := [.lit (.bool true)], args := [d1, d2] }
  | _ => none }
def fnDisallowNonFiniteFloatsCommutesWithLimitsRow : OpenClaim := { program := "qxb6619000afmt", sum := "429ae21bf830a2ef500c6a5e849eff7ebc2a2dc379d35f8130b5fe7bce724738", func := "example.com/firm-config/firm-config/zzlaws_root_b1.FnDisallowNonFiniteFloatsCommutesWithLimits", spec := "fnDisallowNonFiniteFloatsCommutesWithLimits", stops := ["fmt.errorf"], inPlace := ["fmt.errorf"], apart := false }
/-- NO THEOREM (fmt's text is open here; it may be false): for the released tool's asking of the row's closed facts alone. THE STATEMENT IS 'FnDisallowNonFiniteFloatsCommutesWithLimitsToldSaid' (Qxb6619000aFmtCards.lean). -/
def FnDisallowNonFiniteFloatsCommutesWithLimitsFormAsk : Prop := fnDisallowNonFiniteFloatsCommutesWithLimitsRow.holds Tryf.pinned (OpenSpec.ofChange fnDisallowNonFiniteFloatsCommutesWithLimitsSpec)

/-- ITS FALSE NEIGHBOUR: 'it returns false'. Refute it at one input. -/
def fnDisallowNonFiniteFloatsCommutesWithLimitsWrong : ChangeSpec := { name := "fnDisallowNonFiniteFloatsCommutesWithLimits", fn := fun _ => fun
  | [d1, d2] => { results := [.lit (.bool false)], args := [d1, d2] }
  | _ => none }
def FnDisallowNonFiniteFloatsCommutesWithLimitsWrongFormAsk : Prop := fnDisallowNonFiniteFloatsCommutesWithLimitsRow.holds Tryf.pinned (OpenSpec.ofChange fnDisallowNonFiniteFloatsCommutesWithLimitsWrong)

/-- 'zzlaws_root_b1.FnDisallowNonFiniteFloatsIsIdempotentAndSetsTheFlagAlone': WHATEVER THE INPUT: true; the input reads as it did. -/
def fnDisallowNonFiniteFloatsIsIdempotentAndSetsTheFlagAloneSpec : ChangeSpec := { name := "fnDisallowNonFiniteFloatsIsIdempotentAndSetsTheFlagAlone", fn := fun _ => fun
  | [d1, d2] => { results := [.lit (.bool true)], args := [d1, d2] }
  | _ => none }
def fnDisallowNonFiniteFloatsIsIdempotentAndSetsTheFlagAloneRow : OpenClaim := { program := "qxb6619000afmt", sum := "429ae21bf830a2ef500c6a5e849eff7ebc2a2dc379d35f8130b5fe7bce724738", func := "example.com/firm-config/firm-config/zzlaws_root_b1.FnDisallowNonFiniteFloatsIsIdempotentAndSetsTheFlagAlone", spec := "fnDisallowNonFiniteFloatsIsIdempotentAndSetsTheFlagAlone", stops := ["fmt.errorf"], inPlace := ["fmt.errorf"], apart := false }
/-- NO THEOREM (fmt's text is open here; it may be false): for the released tool's asking of the row's closed facts alone. THE STATEMENT IS 'FnDisallowNonFiniteFloatsIsIdempotentAndSetsTheFlagAloneToldSaid' (Qxb6619000aFmtCards.lean). -/
def FnDisallowNonFiniteFloatsIsIdempotentAndSetsTheFlagAloneFormAsk : Prop := fnDisallowNonFiniteFloatsIsIdempotentAndSetsTheFlagAloneRow.holds Tryf.pinned (OpenSpec.ofChange fnDisallowNonFiniteFloatsIsIdempotentAndSetsTheFlagAloneSpec)

/-- ITS FALSE NEIGHBOUR: 'it returns false'. Refute it at one input. -/
def fnDisallowNonFiniteFloatsIsIdempotentAndSetsTheFlagAloneWrong : ChangeSpec := { name := "fnDisallowNonFiniteFloatsIsIdempotentAndSetsTheFlagAlone", fn := fun _ => fun
  | [d1, d2] => { results := [.lit (.bool false)], args := [d1, d2] }
  | _ => none }
def FnDisallowNonFiniteFloatsIsIdempotentAndSetsTheFlagAloneWrongFormAsk : Prop := fnDisallowNonFiniteFloatsIsIdempotentAndSetsTheFlagAloneRow.holds Tryf.pinned (OpenSpec.ofChange fnDisallowNonFiniteFloatsIsIdempotentAndSetsTheFlagAloneWrong)

end Rows
end Go.Proofs.Qxb6619000aFmt
