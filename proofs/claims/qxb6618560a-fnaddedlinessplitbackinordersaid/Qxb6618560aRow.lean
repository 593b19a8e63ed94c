/-
  THE STATEMENT: the row 'FnAddedLinesSplitBackInOrder' proved: the slice of slices is opened at every row ('open_int_rows'), the law's walk is taken, the arguments read again below the heap's old size ('Below.trod').
-/
import Derived.Test.Qxb6618560aLaw
import Derived.ProofKit
import Derived.OpenShut
import Derived.Deep.Matrix
import Derived.Carry
namespace Go.Proofs.Qxb6618560a
open Go.ChangeShapes Go.WideShapes Go.ChangeAt Go.RowKit Go.Deep

theorem own : ownKnob Try.prog.godebug = none := by kernel_rfl
theorem laidOut : laidOutB Try.prog = true := by kernel_rfl
theorem cells25 : Try.prog.cellsOf 25 = 1 := by kernel_rfl
theorem cells5 : Try.prog.cellsOf 5 = 1 := by kernel_rfl

theorem wrap_of_wf {n : Int} (h : (Lit.int .u64 n).wf = true) : IntKind.u64.wrap n = n := by
  simp [Lit.wf, IntKind.max, IntKind.min, IntKind.bits, IntKind.signed] at h
  simp [IntKind.wrap, IntKind.bits, IntKind.signed]
  omega

set_option maxRecDepth 100000 in
theorem lifted (os : Os) (started : os.Started) (H : Type) (enc : TypeId × Value → H) :
    ReturnsInHanded {} Try.checked os 3 .any (Rows.fnAddedLinesSplitBackInOrderSpec.pre6 enc Try.prog Try.f3 Rows.fnAddedLinesSplitBackInOrderRow.domain false) (Rows.fnAddedLinesSplitBackInOrderSpec.post enc Try.prog Try.f3 false true false false) := by
  refine returnsInHanded_of_change (C := Try.checked) own started (by kernel_rfl) Try.func3
    (ChangeSpec.witness6 (enc := enc) (C := Try.checked) false ⟨#[], #[.int .u64 0, .slice none 0 0], []⟩ 8 (by kernel_rfl) (by kernel_rfl) (by kernel_rfl) (by kernel_rfl)) ?_
  intro W base args ds gs before hval0 hW hcnd _
  have hval : ∀ (j : Nat) t v, Try.f3.params[j]? = some t → args[j]? = some v → Value.okWide Try.prog W .any base t v := hval0
  have hW' := hW
  obtain ⟨p, q, hA0, hV, rfl, hfz, hnd⟩ := hW
  have hA : DataW.TrodAll enc Try.prog W 0 (fun _ => true) true Try.f3.params.toList args.toList ds p := hA0
  rw [Try.params3] at hA hval
  obtain ⟨v0, v1, d0, d1, p0, p1, rfl, rfl, rfl, h0, h1⟩ := trodAll_two hA
  obtain ⟨rfl, rfl⟩ := trodVars_none hV
  obtain ⟨st, rfl, rfl, rfl, wst⟩ := open_int Try.underlying22 (hval 0 22 v0 rfl rfl) h0
  obtain ⟨a0, len, cap, rfl⟩ := okWide_slice Try.underlying23 (hval 1 23 v1 rfl rfl)
  have h1k := h1
  obtain ⟨fuel, hf⟩ := h1
  have hst := wrap_of_wf wst
  have hlt : ∀ x ∈ p1, x.block < W.heap.size := fun x hx => by
    have := hW'.lt x (by simp [hx])
    simpa using this
  have e1 : Rows.fnAddedLinesSplitBackInOrderSpec.fn H ([.lit (.int .u64 st), d1] ++ []) = { results := [.lit (.bool true)], args := [.lit (.int .u64 st), d1] } := rfl
  have fin : ∀ (e : Ending) (W' : World), e = .returned (.bool true) ∧ Below W.heap.size W W' → ∃ v, e = .returned v ∧ Rows.fnAddedLinesSplitBackInOrderSpec.post enc Try.prog Try.f3 false true false false W #[.int .u64 st, .slice a0 len cap] v W' := by
    rintro e W' ⟨rfl, bel⟩
    refine ⟨_, rfl, _, _, _, [], [] ++ p1, [], hW', ?_, ?_, ?_, bel.frame _, fun h => by cases h⟩
    · rw [e1]; exact trodAll_mk1 (shut_bool Try.underlying4 true)
    · rw [e1]; exact trodAll_mk2 (shut_int Try.underlying22 wst) (Below.trod laidOut (by kernel_rfl) (of_decide_eq_true (by kernel_rfl)) h1k bel hlt)
    · rw [e1]; rfl
  clear hA0 hval0
  rcases open_int_rows Try.underlying23 Try.underlying25 Try.underlying5 cells25 cells5 hf with ⟨hcs0, _⟩ | ⟨a, len', cap', A, L, C, Z, hcs0, _, hl, _, _, hrows⟩
  · simp [Value.cells] at hcs0
    obtain ⟨rfl, rfl, rfl⟩ := hcs0
    exact (law_zero st none 0 W hst).mono fin
  · simp [Value.cells] at hcs0
    obtain ⟨rfl, rfl, rfl⟩ := hcs0
    by_cases hz : len = 0
    · subst hz
      exact (law_zero st (some a) cap W hst).mono fin
    · obtain ⟨b, off, sp⟩ := a
      have hsp : sp = none := spot_of_cell (hrows 0 (by omega)).1
      subst hsp
      refine (law_big st b off len cap A L C (fun r => (Z r).take (L r)) W (by omega) hst ?_ ?_ ?_).mono fin
      · intro j hj
        have := (hrows j (by omega)).1
        rwa [Addr.add_lit] at this
      · intro j hj
        obtain ⟨_, hLC, _, hZ, _, hnone, hsome⟩ := hrows j (by omega)
        cases hA : A j with
        | none =>
          have hC := hnone hA
          left
          have hL0 : L j = 0 := by omega
          rw [hL0, hC]
          exact ⟨rfl, by simp [u8s]⟩
        | some a' =>
          right
          refine ⟨a', C j, by simp [u8s]; omega, ?_, u8s_one⟩
          intro i u hu
          have hi : i < ((Z j).take (L j)).length := by
            have := (List.getElem?_eq_some_iff.1 hu).1
            simpa [u8s] using this
          rw [u8s_at hi] at hu
          have hi2 : i < L j ∧ i < (Z j).length := by rw [List.length_take] at hi; omega
          have hc := (hsome a' hA).2 i (by omega)
          rw [hc, ← hu]
          congr 2
          simp [List.getD_eq_getElem?_getD, hi2.1]
      · intro j hj
        obtain ⟨_, hLC, _, hZ, _⟩ := hrows j (by omega)
        simp
        omega

theorem addedLines_proved : Rows.FnAddedLinesSplitBackInOrderSaid :=
  OpenClaim.holds_of_wide 3 Try.f3 rfl rfl rfl rfl rfl rfl rfl ⟨rfl, rfl, rfl, rfl, rfl⟩ rfl rfl rfl rfl rfl (by kernel_rfl) Try.func3 (by kernel_rfl)
    (of_decide_eq_true (by kernel_rfl)) (by unfold Func.isWrapper; first | (rw [if_pos (by decide +kernel)]; kernel_rfl) | (rw [if_neg (by decide +kernel)]; exact ⟨rfl, rfl⟩))
    (fun os started H enc _ => lifted os started H enc)
end Go.Proofs.Qxb6618560a
