/-
  THE STATEMENT: the row 'FnNamesOneMoreNameAnywhereIsNotEmpty' proved: each list of strings is opened once into what the walks ask; the arguments read again below the heap's old size.
-/
import Derived.Test.Qxb6618616aNmLaw
import Derived.ProofKit
import Derived.OpenShut
import Derived.ShutString
import Derived.SliceStrings
import Derived.Carry
namespace Go.Proofs.Qxb6618616a.nm
open Go.ChangeShapes Go.WideShapes Go.ChangeAt Go.RowKit
open Go.ChangeMaps (open_string shut_string)

theorem own : ownKnob Try.prog.godebug = none := by kernel_rfl
theorem laidOut : laidOutB Try.prog = true := by kernel_rfl
theorem cells9 : Try.prog.cellsOf 9 = 1 := by kernel_rfl

theorem spot_of_cell {w : World} {a : Addr} {u : Value} (h : w.cell? a = some u) : a.spot = none := by
  cases hs : a.spot with
  | none => rfl
  | some x =>
    unfold World.cell? at h
    split at h <;> simp [hs] at h

/-- A list of strings that came in: what the walks ask of it. -/
theorem view {H : Type} {enc : TypeId × Value → H} {W : World} {base : Nat} {v : Value} {d : DataW H} {p : List MemPlace} (hok : Value.okWide Try.prog W .any base 25 v) (h : DataW.Trod enc Try.prog W 0 (fun _ => true) true 25 v d p) :
    ∃ ao n c, v = .slice ao n c ∧ StrsAt W ao n ∧ (ao = none → n = 0 ∧ c = 0) := by
  obtain ⟨a0, len, cap, rfl⟩ := okWide_slice Try.underlying25 hok
  obtain ⟨fuel, hf⟩ := h
  rcases open_strings Try.underlying25 Try.underlying9 cells9 hf with ⟨hcs, hx⟩ | ⟨a, len', cap', ss, hcs, _, hl, hm, hz, hx, hcell, hws⟩
  · simp [Value.cells] at hcs
    obtain ⟨rfl, rfl, rfl⟩ := hcs
    exact ⟨_, _, _, rfl, fun j hj => by omega, fun _ => ⟨rfl, rfl⟩⟩
  · simp [Value.cells] at hcs
    obtain ⟨rfl, rfl, rfl⟩ := hcs
    refine ⟨_, _, _, rfl, fun j hj => ?_, fun h => by cases h⟩
    simp only [if_true] at hz
    have hc := hcell j (by omega)
    have h0 := hcell 0 (by omega)
    obtain ⟨b, off, sp⟩ := a
    have hsp : sp = none := spot_of_cell h0
    subst hsp
    rw [Addr.add_lit] at hc
    exact ⟨b, off, rfl, _, hc⟩

set_option maxRecDepth 100000 in
theorem lifted (os : Os) (started : os.Started) (H : Type) (enc : TypeId × Value → H) :
    ReturnsInHanded {} Try.checked os 5 .any (Rows.fnNamesOneMoreNameAnywhereIsNotEmptySpec.pre6 enc Try.prog Try.f5 Rows.fnNamesOneMoreNameAnywhereIsNotEmptyRow.domain false) (Rows.fnNamesOneMoreNameAnywhereIsNotEmptySpec.post enc Try.prog Try.f5 false true false false) := by
  refine returnsInHanded_of_change (C := Try.checked) own started (by kernel_rfl) Try.func5
    (ChangeSpec.witness6 (enc := enc) (C := Try.checked) false ⟨#[], #[.slice none 0 0, .slice none 0 0, .slice none 0 0, .slice none 0 0, .slice none 0 0, .slice none 0 0, .string ByteArray.empty], []⟩ 8 (by kernel_rfl) (by kernel_rfl) (by kernel_rfl) (by kernel_rfl)) ?_
  intro W base args ds gs before hval0 hW hcnd _
  have hval : ∀ (j : Nat) t v, Try.f5.params[j]? = some t → args[j]? = some v → Value.okWide Try.prog W .any base t v := hval0
  have hW' := hW
  obtain ⟨p, q, hA0, hV, rfl, hfz, hnd⟩ := hW
  have hA : DataW.TrodAll enc Try.prog W 0 (fun _ => true) true Try.f5.params.toList args.toList ds p := hA0
  rw [Try.params5] at hA hval
  obtain ⟨v0, vs0, d0, ds0, p0, q0, hargs, rfl, rfl, h0, r0⟩ := trodAll_cons hA
  obtain ⟨v1, vs1, d1, ds1, p1, q1, rfl, rfl, rfl, h1, r1⟩ := trodAll_cons r0
  obtain ⟨v2, vs2, d2, ds2, p2, q2, rfl, rfl, rfl, h2, r2⟩ := trodAll_cons r1
  obtain ⟨v3, vs3, d3, ds3, p3, q3, rfl, rfl, rfl, h3, r3⟩ := trodAll_cons r2
  obtain ⟨v4, vs4, d4, ds4, p4, q4, rfl, rfl, rfl, h4, r4⟩ := trodAll_cons r3
  obtain ⟨v5, vs5, d5, ds5, p5, q5, rfl, rfl, rfl, h5, r5⟩ := trodAll_cons r4
  obtain ⟨v6, vs6, d6, ds6, p6, q6, rfl, rfl, rfl, h6, r6⟩ := trodAll_cons r5
  obtain ⟨rfl, rfl, rfl⟩ := trodAll_nil r6
  obtain rfl : args = #[v0, v1, v2, v3, v4, v5, v6] := by cases args; simp_all
  obtain ⟨rfl, rfl⟩ := trodVars_none hV
  obtain ⟨a1, n1, c1, rfl, s1, _⟩ := view (hval 0 25 v0 rfl rfl) h0
  obtain ⟨a2, n2, c2, rfl, s2, _⟩ := view (hval 1 25 v1 rfl rfl) h1
  obtain ⟨a3, n3, c3, rfl, s3, _⟩ := view (hval 2 25 v2 rfl rfl) h2
  obtain ⟨a4, n4, c4, rfl, s4, hnil⟩ := view (hval 3 25 v3 rfl rfl) h3
  obtain ⟨a5, n5, c5, rfl, s5, _⟩ := view (hval 4 25 v4 rfl rfl) h4
  obtain ⟨a6, n6, c6, rfl, s6, _⟩ := view (hval 5 25 v5 rfl rfl) h5
  obtain ⟨nm, rfl, rfl, rfl, wn⟩ := open_string Try.underlying9 (hval 6 9 v6 rfl rfl) h6
  have lt0 : ∀ x ∈ p0, x.block < W.heap.size := fun x hx => by
    have := hW'.lt x (by simp [hx])
    simpa using this
  have lt1 : ∀ x ∈ p1, x.block < W.heap.size := fun x hx => by
    have := hW'.lt x (by simp [hx])
    simpa using this
  have lt2 : ∀ x ∈ p2, x.block < W.heap.size := fun x hx => by
    have := hW'.lt x (by simp [hx])
    simpa using this
  have lt3 : ∀ x ∈ p3, x.block < W.heap.size := fun x hx => by
    have := hW'.lt x (by simp [hx])
    simpa using this
  have lt4 : ∀ x ∈ p4, x.block < W.heap.size := fun x hx => by
    have := hW'.lt x (by simp [hx])
    simpa using this
  have lt5 : ∀ x ∈ p5, x.block < W.heap.size := fun x hx => by
    have := hW'.lt x (by simp [hx])
    simpa using this
  clear hA0 hval0
  refine (law5 a1 a2 a3 a4 a5 a6 n1 n2 n3 n4 n5 n6 c1 c2 c3 c4 c5 c6 nm W s1 s2 s3 s4 s5 s6 hnil).mono fun e W' ⟨he, bel⟩ => ?_
  subst he
  have e1 : Rows.fnNamesOneMoreNameAnywhereIsNotEmptySpec.fn H ([d0, d1, d2, d3, d4, d5, .lit (.string nm.data.toList)] ++ []) = { results := [.lit (.bool true)], args := [d0, d1, d2, d3, d4, d5, .lit (.string nm.data.toList)] } := rfl
  refine ⟨_, rfl, _, _, _, [], p0 ++ (p1 ++ (p2 ++ (p3 ++ (p4 ++ (p5 ++ ([] ++ [])))))), [], hW', ?_, ?_, ?_, bel.frame _, fun h => by cases h⟩
  · rw [e1]; exact trodAll_mk1 (shut_bool Try.underlying4 true)
  · rw [e1]; exact (trodAll_cons_mk (Below.trod laidOut (by kernel_rfl) (of_decide_eq_true (by kernel_rfl)) h0 bel lt0) (trodAll_cons_mk (Below.trod laidOut (by kernel_rfl) (of_decide_eq_true (by kernel_rfl)) h1 bel lt1) (trodAll_cons_mk (Below.trod laidOut (by kernel_rfl) (of_decide_eq_true (by kernel_rfl)) h2 bel lt2) (trodAll_cons_mk (Below.trod laidOut (by kernel_rfl) (of_decide_eq_true (by kernel_rfl)) h3 bel lt3) (trodAll_cons_mk (Below.trod laidOut (by kernel_rfl) (of_decide_eq_true (by kernel_rfl)) h4 bel lt4) (trodAll_cons_mk (Below.trod laidOut (by kernel_rfl) (of_decide_eq_true (by kernel_rfl)) h5 bel lt5) (trodAll_cons_mk (shut_string Try.underlying9 wn) trodAll_mk0)))))))
  · rw [e1]; rfl
end Go.Proofs.Qxb6618616a.nm
namespace Go.Proofs.Qxb6618616a
/-- THE STATEMENT. -/
theorem names_proved : Rows.FnNamesOneMoreNameAnywhereIsNotEmptySaid :=
  OpenClaim.holds_of_wide 5 Try.f5 rfl rfl rfl rfl rfl rfl rfl ⟨rfl, rfl, rfl, rfl, rfl⟩ rfl rfl rfl rfl rfl (by kernel_rfl) Try.func5 (by kernel_rfl)
    (of_decide_eq_true (by kernel_rfl)) (by unfold Func.isWrapper; first | (rw [if_pos (by decide +kernel)]; kernel_rfl) | (rw [if_neg (by decide +kernel)]; exact ⟨rfl, rfl⟩))
    (fun os started H enc _ => nm.lifted os started H enc)
end Go.Proofs.Qxb6618616a
