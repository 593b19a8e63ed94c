/-
  THE FIRST STATEMENT: the row 'FnIsLogHostSplitsAtCharacterBoundary' proved (after the guide's worked rows over a listed variable), and its tied card.
-/
import Derived.Test.Qxb6618505aDoorLawA
import Derived.Test.Qxb6618505aDoorTie
import Derived.Test.Qxb6618505aDoorCards
import Derived.Lib.LaidU8
import Derived.ProofKit
import Derived.LaidMore
import Derived.OpenShut
import Derived.ShutString
import Derived.Stop.Joined
import Derived.SevenTiedAt
namespace Go.Proofs.Qxb6618505aDoor
open Go.ChangeShapes Go.WideShapes Go.ChangeAt Go.RowKit
open Go.ChangeMaps (open_string shut_string)

theorem own : ownKnob Tryd.prog.godebug = none := by kernel_rfl

/-- The door's own heap meets the condition. -/
theorem door_met (os : Os) (args : Array Value) : laidMetH Tryd.prog [("unicode.White_Space", Rows.laid_unicode_White_Space)] ((World.doorLaid Tryd.prog 400 os).forCall (fun _ _ => 0) ⟨#[], args, []⟩).memory :=
  laidMetH_of_parts3 (fuel := 8) (laidMet_of_run' 8 (by kernel_rfl) (by kernel_rfl)) (by kernel_rfl) (by kernel_rfl)

theorem white_data : (Rows.laid_unicode_White_Space : DataW Unit) = Lib.whiteData := by kernel_rfl

/-- What the condition gives the walks. -/
theorem white_of_laid {W : World} (h : laidMetH Tryd.prog [("unicode.White_Space", Rows.laid_unicode_White_Space)] W) : Lib.WhiteTab 0 W := by
  rw [MakeChecks.laidMetH_plain _ _ _ (by kernel_rfl)] at h
  have hr := Lib.laidMet.reads h (.head _)
  rw [white_data] at hr
  exact whiteTab_of_reads Tryd.lays199 ⟨by kernel_rfl, by kernel_rfl, by kernel_rfl, by kernel_rfl, by kernel_rfl, by kernel_rfl, by kernel_rfl, by kernel_rfl⟩ hr

set_option maxRecDepth 100000 in
theorem liftedA (os : Os) (started : os.Started) (H : Type) (enc : TypeId × Value → H) :
    ReturnsInHanded {} Tryd.checked os 3 .any (fun w args => (Rows.fnIsLogHostSplitsAtCharacterBoundarySpec.pre enc Tryd.prog Tryd.f3 [] false w args ∧ laidMetH Tryd.prog [("unicode.White_Space", Rows.laid_unicode_White_Space)] w) ∧ sizedMet enc Tryd.prog Tryd.f3 (OpenSpec.ofChange Rows.fnIsLogHostSplitsAtCharacterBoundarySpec) false w args)
      (Rows.fnIsLogHostSplitsAtCharacterBoundarySpec.post enc Tryd.prog Tryd.f3 false true false false) := by
  refine returnsInHanded_of_change_and (C := Tryd.checked) (X := fun w _ => laidMetH Tryd.prog [("unicode.White_Space", Rows.laid_unicode_White_Space)] w) (fun _ _ _ hh h => h.of_heap hh) own started (by kernel_rfl) Tryd.func3
    (ChangeSpec.witness_shaped (enc := enc) (C := Tryd.checked) (os := os) (X := fun w _ => laidMetH Tryd.prog [("unicode.White_Space", Rows.laid_unicode_White_Space)] w) false (World.doorLaid Tryd.prog 400 os) #[.string ByteArray.empty, .int .i64 0] 8 rfl (World.shaped_of_RefB (by kernel_rfl) (by kernel_rfl)) (by kernel_rfl) (by kernel_rfl) (by kernel_rfl) (door_met os _)) ?_
  intro W base args ds gs before hval0 hW _ _ hL _
  have hval : ∀ (j : Nat) t v, Tryd.f3.params[j]? = some t → args[j]? = some v → Value.okWide Tryd.prog W .any base t v := hval0
  have hW' := hW
  obtain ⟨p, q, hA0, hV, rfl, hfz, hnd⟩ := hW
  have hA : DataW.TrodAll enc Tryd.prog W 0 (fun _ => true) true Tryd.f3.params.toList args.toList ds p := hA0
  rw [Tryd.params3] at hA hval
  obtain ⟨v0, v1, d0, d1, p0, p1, rfl, rfl, rfl, h0, h1⟩ := trodAll_two hA
  obtain ⟨rfl, rfl⟩ := trodVars_none hV
  obtain ⟨s, rfl, rfl, rfl, ws⟩ := open_string Tryd.underlying9 (hval 0 9 v0 rfl rfl) h0
  obtain ⟨k, rfl, rfl, rfl, wk⟩ := open_int Tryd.underlying3 (hval 1 3 v1 rfl rfl) h1
  clear hA0 hval0
  simp only [List.append_nil] at hW'
  have hT := white_of_laid hL
  refine (law3 s k W hT).mono fun e W' ⟨he, bel⟩ => ?_
  subst he
  have e1 : Rows.fnIsLogHostSplitsAtCharacterBoundarySpec.fn H ([.lit (.string s.data.toList), .lit (.int .i64 k)] ++ []) = { results := [.lit (.bool true)], args := [.lit (.string s.data.toList), .lit (.int .i64 k)] } := rfl
  refine ⟨_, rfl, _, _, _, [], [], [], hW', ?_, ?_, ?_, bel.frame _, fun h => by cases h⟩
  · rw [e1]; exact trodAll_mk1 (shut_bool Tryd.underlying4 true)
  · rw [e1]; exact trodAll_mk2 (shut_string Tryd.underlying9 ws) (shut_int Tryd.underlying3 wk)
  · rw [e1]; rfl

theorem rowA : Rows.FnIsLogHostSplitsAtCharacterBoundarySaid :=
  OpenClaim.holds_of_wide 3 Tryd.f3 rfl rfl rfl rfl rfl rfl rfl ⟨rfl, rfl, rfl, rfl, rfl⟩ rfl rfl rfl rfl rfl (by kernel_rfl) Tryd.func3 (by kernel_rfl)
    (of_decide_eq_true (by kernel_rfl)) (by unfold Func.isWrapper; first | (rw [if_pos (by decide +kernel)]; kernel_rfl) | (rw [if_neg (by decide +kernel)]; exact ⟨rfl, rfl⟩))
    (fun os started H enc _ => liftedA os started H enc)

/-- THE STATEMENT: the tied card. -/
theorem splits_card : Rows.FnIsLogHostSplitsAtCharacterBoundaryCardSaid :=
  Claim7.holds_tied_plain_at .later [] [.listed] true (true, "6667a99a68d3a414bc272246cd0942d05b4c409c095ac06ab1b4375699280c07") false
    rowA (fun _ h => by cases h) (by kernel_rfl) (fun _ h => by cases h) fnIsLogHostSplitsAtCharacterBoundary_row_tie rfl ⟨rfl, rfl⟩ (by kernel_rfl) rfl
    (fun f fn hf hfn => by
      obtain rfl : f = 3 := Option.some.inj ((show Tryd.prog.funcNamed Tryd.f3.name = some 3 by kernel_rfl).symm.trans hf) |>.symm
      obtain rfl : fn = Tryd.f3 := (Option.some.inj (Tryd.func3.symm.trans hfn)).symm
      exact ⟨by kernel_rfl, fun j t ht => by
        rw [Tryd.params3] at ht
        rcases j with _ | _ | j
        · obtain rfl : t = 9 := by simpa using ht.symm
          exact (show Tryd.prog.wantsStandIn 9 = false by kernel_rfl)
        · obtain rfl : t = 3 := by simpa using ht.symm
          exact (show Tryd.prog.wantsStandIn 3 = false by kernel_rfl)
        · simp at ht⟩)
    (by kernel_rfl)
end Go.Proofs.Qxb6618505aDoor
