/-
  THE PROOF of 'Rows.FnIsStringConstantDecidedByKindAndFirstTwoBytesSaid': the law's walk over the contracts of Qxb6618616aIsc.lean; the frame is the one that the kit's tool wrote for this row.
-/
import Derived.Test.Qxb6618616aIsc
import Derived.OpenShut
import Derived.ShutString
namespace Go.Proofs.Qxb6618616a.fnIsStringConstantDecidedByKindAndFirstTwoBytes
open Go.ChangeShapes Go.WideShapes Go.ChangeAt Go.RowKit
open Go.ChangeMaps (open_string shut_string)
open Go.Proofs.Qxb6618616a.isc
set_option linter.unusedVariables false

theorem gtr {a b c : World} (h : Grown a b) (k : Grown b c) : Grown a c := ⟨World.keptBut_trans h.1 k.1, fun x => (k.2.1 x).trans (h.2.1 x), Nat.le_trans h.2.2 k.2.2⟩
theorem own : ownKnob Try.prog.godebug = none := by kernel_rfl

set_option maxHeartbeats 400000 in
theorem walk_short (a0 : Bool) (a1 a2 a3 : ByteArray) (a4 a5 : Int) (w : World) (h : a1.size + a2.size + a3.size ≤ 1048576) (h2 : ¬ 2 ≤ a1.size) :
    Calls Try.prog 3 #[.bool a0, .string a1, .string a2, .string a3, .int .i64 a4, .int .i64 a5] w fun e w' => e = .returned (.bool true) ∧ Grown w w' := by
  cases a0
  all_goals
    go_enter Try.func3, Try.ntmps3
    go_wp2_with fail
    refine (z7_yes _ _ _ _ _ _ _ h).mono ?_
    rintro e w' ⟨rfl, rfl⟩
    go_wp2_with fail
    refine (sc8_quote _ _ _ _ _ _ (by omega)).mono ?_
    rintro e w1 ⟨rfl, g1⟩
    go_wp2_with fail
    refine (sc8_upper _ _ _ _ _ _ (by omega)).mono ?_
    rintro e w2 ⟨rfl, g2⟩
    go_wp2_with fail
    refine (sc8_lower _ _ _ _ _ _ (by omega)).mono ?_
    rintro e w3 ⟨rfl, g3⟩
    go_wp2_with fail
    go_ret
    exact ⟨rfl, gtr (gtr g1 g2) g3⟩
set_option maxHeartbeats 400000 in
theorem walk_long (a0 : Bool) (a1 a2 a3 : ByteArray) (a4 a5 : Int) (w : World) (h : a1.size + a2.size + a3.size ≤ 1048576) (h2 : 2 ≤ a1.size) :
    Calls Try.prog 3 #[.bool a0, .string a1, .string a2, .string a3, .int .i64 a4, .int .i64 a5] w fun e w' => e = .returned (.bool true) ∧ Grown w w' := by
  cases a0
  all_goals
    go_enter Try.func3, Try.ntmps3
    go_wp2_with fail
    refine (z7_yes _ _ _ _ _ _ _ h).mono ?_
    rintro e w' ⟨rfl, rfl⟩
    go_wp2_with fail
    refine (sc8_quote _ _ _ _ _ _ (by omega)).mono ?_
    rintro e w1 ⟨rfl, g1⟩
    go_wp2_with fail
    refine (sc8_upper _ _ _ _ _ _ (by omega)).mono ?_
    rintro e w2 ⟨rfl, g2⟩
    go_wp2_with fail
    refine (sc8_lower _ _ _ _ _ _ (by omega)).mono ?_
    rintro e w3 ⟨rfl, g3⟩
    go_wp2_with fail
    refine (sc8_whole _ _ _ _ _ _ _ (by omega) h2).mono ?_
    rintro e w4 ⟨rfl, g4⟩
    generalize hb : scB _ (a1.extract 0 2) = b
    have hz : (a1.extract 0 2).size ≤ maxLen := by unfold maxLen; rw [ByteArray.size_extract]; omega
    have c8 : ∀ ww, Calls Try.prog 8 #[.bool _, .string (a1.extract 0 2), .string ⟨#[]⟩, .int .i64 0, .int .i64 0] ww fun e w' => e = .returned (.bool b) ∧ Grown ww w' := fun ww => hb ▸ sc8 _ (a1.extract 0 2) ⟨#[]⟩ 0 0 ww hz
    have C8 : Hid _ := c8
    clear hb c8
    cases b
    all_goals
      go_wp2_with fail
      refine (C8.out _).mono ?_
      rintro e w5 ⟨rfl, g5⟩
      go_wp2_with fail
      go_ret
      exact ⟨rfl, gtr (gtr (gtr (gtr g1 g2) g3) g4) g5⟩

theorem walk (a0 : Bool) (a1 : ByteArray) (a2 : ByteArray) (a3 : ByteArray) (a4 : Int) (a5 : Int) (w1 : a1.size ≤ maxLen) (w2 : a2.size ≤ maxLen) (w3 : a3.size ≤ maxLen) (w4 : (Lit.int .i64 a4).wf = true) (w5 : (Lit.int .i64 a5).wf = true) (w : World) :
    Calls Try.prog 3 #[.bool a0, .string a1, .string a2, .string a3, .int .i64 a4, .int .i64 a5] w fun e w' => e = .returned (.bool true) ∧ Grown w w' := by
  by_cases h : a1.size + a2.size + a3.size ≤ 1048576
  · by_cases h2 : 2 ≤ a1.size
    · exact walk_long a0 a1 a2 a3 a4 a5 w h h2
    · exact walk_short a0 a1 a2 a3 a4 a5 w h h2
  · exact walk_no a0 a1 a2 a3 a4 a5 w w1 w2 w3 h

/-! ### THE ROW's STEP: WRITTEN OUT: LEAVE IT -/
set_option maxRecDepth 100000 in
theorem lifted (os : Os) (started : os.Started) (H : Type) (enc : TypeId × Value → H) :
    ReturnsInHanded {} Try.checked os 3 .any (Rows.fnIsStringConstantDecidedByKindAndFirstTwoBytesSpec.pre6 enc Try.prog Try.f3 Rows.fnIsStringConstantDecidedByKindAndFirstTwoBytesRow.domain false) (Rows.fnIsStringConstantDecidedByKindAndFirstTwoBytesSpec.post enc Try.prog Try.f3 false true false false) := by
  refine returnsInHanded_of_change (C := Try.checked) own started (by kernel_rfl) Try.func3
    (ChangeSpec.witness6 (enc := enc) (C := Try.checked) false ⟨#[], #[.bool false, .string ByteArray.empty, .string ByteArray.empty, .string ByteArray.empty, .int .i64 0, .int .i64 0], []⟩ 8 (by kernel_rfl) (by kernel_rfl) (by kernel_rfl) (by kernel_rfl)) ?_
  intro W base args ds gs before hval0 hW hcnd _
  have hval : ∀ (j : Nat) t v, Try.f3.params[j]? = some t → args[j]? = some v → Value.okWide Try.prog W .any base t v := hval0
  have hW' := hW
  obtain ⟨p, q, hA0, hV, rfl, hfz, hnd⟩ := hW
  have hA : DataW.TrodAll enc Try.prog W 0 (fun _ => true) true Try.f3.params.toList args.toList ds p := hA0
  rw [Try.params3] at hA hval
  obtain ⟨v0, vs0, d0, ds0, p0, q0, hargs, rfl, rfl, h0, r0⟩ := trodAll_cons hA
  obtain ⟨v1, vs1, d1, ds1, p1, q1, rfl, rfl, rfl, h1, r1⟩ := trodAll_cons r0
  obtain ⟨v2, vs2, d2, ds2, p2, q2, rfl, rfl, rfl, h2, r2⟩ := trodAll_cons r1
  obtain ⟨v3, vs3, d3, ds3, p3, q3, rfl, rfl, rfl, h3, r3⟩ := trodAll_cons r2
  obtain ⟨v4, vs4, d4, ds4, p4, q4, rfl, rfl, rfl, h4, r4⟩ := trodAll_cons r3
  obtain ⟨v5, vs5, d5, ds5, p5, q5, rfl, rfl, rfl, h5, r5⟩ := trodAll_cons r4
  obtain ⟨rfl, rfl, rfl⟩ := trodAll_nil r5
  obtain rfl : args = #[v0, v1, v2, v3, v4, v5] := by cases args; simp_all
  obtain ⟨rfl, rfl⟩ := trodVars_none hV
  obtain ⟨a0, rfl, rfl, rfl⟩ := open_bool Try.underlying4 (hval 0 4 v0 rfl rfl) h0
  obtain ⟨a1, rfl, rfl, rfl, w1⟩ := open_string Try.underlying9 (hval 1 9 v1 rfl rfl) h1
  obtain ⟨a2, rfl, rfl, rfl, w2⟩ := open_string Try.underlying9 (hval 2 9 v2 rfl rfl) h2
  obtain ⟨a3, rfl, rfl, rfl, w3⟩ := open_string Try.underlying9 (hval 3 9 v3 rfl rfl) h3
  obtain ⟨a4, rfl, rfl, rfl, w4⟩ := open_int Try.underlying3 (hval 4 3 v4 rfl rfl) h4
  obtain ⟨a5, rfl, rfl, rfl, w5⟩ := open_int Try.underlying3 (hval 5 3 v5 rfl rfl) h5
  clear hA0 hval0
  simp only [List.append_nil] at hW'
  refine (walk a0 a1 a2 a3 a4 a5 w1 w2 w3 w4 w5 W).mono fun e W' ⟨he, hg⟩ => ?_
  subst he
  exact ⟨_, rfl, post_of_same (pa := []) (pv := []) hW' (fun _ _ _ => (trodAll_cons_mk (shut_bool Try.underlying4 _) trodAll_mk0)) (fun sp _ => (trodAll_cons_mk (shut_bool Try.underlying4 _) (trodAll_cons_mk (shut_string Try.underlying9 w1) (trodAll_cons_mk (shut_string Try.underlying9 w2) (trodAll_cons_mk (shut_string Try.underlying9 w3) (trodAll_cons_mk (shut_int Try.underlying3 w4) (trodAll_cons_mk (shut_int Try.underlying3 w5) trodAll_mk0))))))) (fun _ _ => rfl) rfl
    (hg.frame _) hg.2.1 (ok_one (by kernel_rfl) rfl (okWide_bool_mk Try.underlying4 _))⟩

theorem over : Rows.fnIsStringConstantDecidedByKindAndFirstTwoBytesRow.holds Try.pinned (OpenSpec.ofChange Rows.fnIsStringConstantDecidedByKindAndFirstTwoBytesSpec) :=
  OpenClaim.holds_of_wide 3 Try.f3 rfl rfl rfl rfl rfl rfl rfl ⟨rfl, rfl, rfl, rfl, rfl⟩ rfl rfl rfl rfl rfl (by kernel_rfl) Try.func3 (by kernel_rfl)
    (of_decide_eq_true (by kernel_rfl)) (by unfold Func.isWrapper; first | (rw [if_pos (by decide +kernel)]; kernel_rfl) | (rw [if_neg (by decide +kernel)]; exact ⟨rfl, rfl⟩))
    (fun os started H enc _ => lifted os started H enc)

end Go.Proofs.Qxb6618616a.fnIsStringConstantDecidedByKindAndFirstTwoBytes
namespace Go.Proofs.Qxb6618616a
/-- THE STATEMENT. -/
theorem isStringConstant_proved : Rows.FnIsStringConstantDecidedByKindAndFirstTwoBytesSaid :=
  fnIsStringConstantDecidedByKindAndFirstTwoBytes.over
end Go.Proofs.Qxb6618616a
