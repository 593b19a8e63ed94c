/-
  DERIVED. GIVEN WITH THE SEED: THE CARDS: each row of Qxb6619000aFmtRows.lean that lists a variable, with what it lists TIED to the program's text (the seventh form; the later family's looks); each row that meets fmt, with fmt's text TOLD by the authors' own Lean function (tested against real Go, not proved from fmt's source: count such statements apart). THE CARD IS WHAT COUNTS. Prove the row's statement (the work); the ties are given (Qxb6619000aFmtTie.lean); close each card by the builder's one call (the guide's Derived/Test/ToyasCard.lean, 'card_holds'). Laid BY PROGRAM, IN A SANDBOX (cutbox-door.mjs). By AI agents, Wed Nov 11 2026. No macro, syntax, notation, axiom, sorry.
-/
import Derived.Test.Qxb6619000aFmtRows
import GoSem.ClaimSeven
namespace Go.Proofs.Qxb6619000aFmt
namespace Rows

/-- THE TOLD CARD OF 'zzlaws_root_b1.FnDisallowNonFiniteFloatsCommutesWithLimits'. -/
def fnDisallowNonFiniteFloatsCommutesWithLimitsCard : Claim7 := { stood := { row := fnDisallowNonFiniteFloatsCommutesWithLimitsRow, standIns := [], harness := (true, "fea859f873e38bd4099d8c5f22a4ed1fde81017726f236a0747997c7bb69bbb7"), looks := false }, told := true, goes := false }
def FnDisallowNonFiniteFloatsCommutesWithLimitsToldSaid : Prop := Claim7.holds Tryf.pinned (.plain (OpenSpec.ofChange fnDisallowNonFiniteFloatsCommutesWithLimitsSpec)) fnDisallowNonFiniteFloatsCommutesWithLimitsCard
/-- ITS FALSE NEIGHBOUR. Refute it at one input. -/
def FnDisallowNonFiniteFloatsCommutesWithLimitsToldWrongFalsely : Prop := Claim7.holds Tryf.pinned (.plain (OpenSpec.ofChange fnDisallowNonFiniteFloatsCommutesWithLimitsWrong)) fnDisallowNonFiniteFloatsCommutesWithLimitsCard

/-- THE TOLD CARD OF 'zzlaws_root_b1.FnDisallowNonFiniteFloatsIsIdempotentAndSetsTheFlagAlone'. -/
def fnDisallowNonFiniteFloatsIsIdempotentAndSetsTheFlagAloneCard : Claim7 := { stood := { row := fnDisallowNonFiniteFloatsIsIdempotentAndSetsTheFlagAloneRow, standIns := [], harness := (true, "fea859f873e38bd4099d8c5f22a4ed1fde81017726f236a0747997c7bb69bbb7"), looks := false }, told := true, goes := false }
def FnDisallowNonFiniteFloatsIsIdempotentAndSetsTheFlagAloneToldSaid : Prop := Claim7.holds Tryf.pinned (.plain (OpenSpec.ofChange fnDisallowNonFiniteFloatsIsIdempotentAndSetsTheFlagAloneSpec)) fnDisallowNonFiniteFloatsIsIdempotentAndSetsTheFlagAloneCard
/-- ITS FALSE NEIGHBOUR. Refute it at one input. -/
def FnDisallowNonFiniteFloatsIsIdempotentAndSetsTheFlagAloneToldWrongFalsely : Prop := Claim7.holds Tryf.pinned (.plain (OpenSpec.ofChange fnDisallowNonFiniteFloatsIsIdempotentAndSetsTheFlagAloneWrong)) fnDisallowNonFiniteFloatsIsIdempotentAndSetsTheFlagAloneCard
end Rows
end Go.Proofs.Qxb6619000aFmt
