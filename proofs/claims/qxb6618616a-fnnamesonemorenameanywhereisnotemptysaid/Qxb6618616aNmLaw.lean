/-
  THE LAW's WALK: FnNamesOneMoreNameAnywhereIsNotEmpty returns true at every six lists and every name.
-/
import Derived.Test.Qxb6618616aNmDom
namespace Go.Proofs.Qxb6618616a.nm
open Go.RowKit

theorem StrsAt.later {w w' : World} {ao : Option Addr} {n : Nat} (h : StrsAt w ao n) (hb : Below w.heap.size w w') : StrsAt w' ao n := fun j hj => by
  obtain ⟨b, off, e, s, hc⟩ := h j hj
  exact ⟨b, off, e, s, later_cell hb hc⟩
theorem DomsAt.later {w w' : World} {ao : Option Addr} {n : Nat} (h : DomsAt w ao n) (hb : Below w.heap.size w w') : DomsAt w' ao n := fun j hj => by
  obtain ⟨b, off, e, s0, s1, s2, h0, h1, h2⟩ := h j hj
  exact ⟨b, off, e, s0, s1, s2, later_cell hb h0, later_cell hb h1, later_cell hb h2⟩
theorem bel_trans {a b c : World} (h : Below a.heap.size a b) (k : Below b.heap.size b c) : Below a.heap.size a c := h.trans (k.mono h.size)
theorem kept {w w' : World} {b : Nat} {o : Obj} (h : w.heap[b]? = some o) (hb : Below w.heap.size w w') : w'.heap[b]? = some o := (hb.block b (lt_of_block h)).trans h
/-- A new block, then a call that turns nothing old. -/
theorem step {w w' : World} {o : Obj} (hb : Below (w.alloc o).heap.size (w.alloc o) w') : Below w.heap.size w w' ∧ w'.heap[w.heap.size]? = some o :=
  ⟨bel_trans ((Below.refl _ _).alloc (Nat.le_refl _) o) hb, kept (heap_alloc_new w o) hb⟩
theorem step2 {w w' : World} {o o' : Obj} (hb : Below ((w.alloc o).alloc o').drew.heap.size ((w.alloc o).alloc o').drew w') : Below w.heap.size w w' ∧ w'.heap[w.heap.size]? = some o := by
  have h1 : Below (w.alloc o).heap.size (w.alloc o) ((w.alloc o).alloc o').drew := ((Below.refl _ _).alloc (Nat.le_refl _) o').drew
  exact step (bel_trans h1 hb)
theorem cells4 {w : World} {b : Nat} {x0 x1 x2 x3 : Value} {t : TypeId} (h : w.heap[b]? = some (.cells #[x0, x1, x2, x3] t (0, 0))) : w.cell? ⟨b, 0, none⟩ = some x0 ∧ w.cell? ⟨b, 1, none⟩ = some x1 ∧ w.cell? ⟨b, 2, none⟩ = some x2 ∧ w.cell? ⟨b, 3, none⟩ = some x3 := by
  simp [World.cell?, h]

theorem empty_no (a1 a2 a3 a4 : Option Addr) (n1 n2 n3 n4 c1 c2 c3 c4 : Nat) (w : World) (h1 : n1 ≤ 1048576) (h2 : n2 ≤ 1048576) (h3 : n3 ≤ 1048576) (h4 : n4 ≤ 1048576) (hp : 0 < n1 + n2 + n3 + n4) :
    Calls Try.prog 18 #[.agg #[.slice a1 n1 c1, .slice a2 n2 c2, .slice a3 n3 c3, .slice a4 n4 c4]] w fun e w' => e = .returned (.bool false) ∧ Below w.heap.size w w' := by
  have c := empty18 a1 a2 a3 a4 n1 n2 n3 n4 c1 c2 c3 c4 w h1 h2 h3 h4
  have e : ((((n1 : Int) + n2 + n3 + n4) == 0) : Bool) = false := by rw [beq_eq_false_iff_ne]; omega
  rwa [e] at c
theorem empty_yes (a1 a2 a3 a4 : Option Addr) (c1 c2 c3 c4 : Nat) (w : World) :
    Calls Try.prog 18 #[.agg #[.slice a1 0 c1, .slice a2 0 c2, .slice a3 0 c3, .slice a4 0 c4]] w fun e w' => e = .returned (.bool true) ∧ Below w.heap.size w w' :=
  empty18 a1 a2 a3 a4 0 0 0 0 c1 c2 c3 c4 w (by omega) (by omega) (by omega) (by omega)
theorem cut0 (t : TypeId) (sz : Nat) (ht : Try.prog.underlying t = some (.slice (Try.prog.elem t))) (hs : ∀ w, (sizeOf (Try.prog.elem t)).run Try.prog w = .ok sz w) (a : Option Addr) (n c : Nat) :
    ∃ x, ∀ ww, (Instr.slice t (.slice a n c) none (some (.int .i64 0)) none).run Try.prog ww = .ok (.slice x 0 c) ww := by
  refine ⟨if c = 0 then a else a.map (·.add (0 * sz)), fun ww => ?_⟩
  rw [run_slice_h ww t a n c ht .i64 0 (by omega) (by omega), hs]
  simp [Result.andThen, sliced]

theorem dom15 (a4 a5 a6 : Option Addr) (n c4 c5 c6 : Nat) (w : World) (s4 : StrsAt w a4 n) (s5 : StrsAt w a5 n) (s6 : StrsAt w a6 n) (hn : n ≤ 65536) (hnil : a4 = none → n = 0 ∧ c4 = 0) :
    Calls Try.prog 15 #[.slice a4 n c4, .slice a5 n c5, .slice a6 n c6] w fun e w' => DomAns w n e w' := by
  cases a4 with
  | none =>
    obtain ⟨rfl, rfl⟩ := hnil rfl
    exact dom15_nil a5 a6 0 0 c5 c6 w
  | some a => exact dom15_some a a5 a6 n c4 c5 c6 w s4 s5 s6 hn

set_option maxRecDepth 20000 in
set_option maxHeartbeats 4000000 in
theorem law5 (a1 a2 a3 a4 a5 a6 : Option Addr) (n1 n2 n3 n4 n5 n6 c1 c2 c3 c4 c5 c6 : Nat) (nm : ByteArray) (w : World) (s1 : StrsAt w a1 n1) (s2 : StrsAt w a2 n2) (s3 : StrsAt w a3 n3) (s4 : StrsAt w a4 n4) (s5 : StrsAt w a5 n5) (s6 : StrsAt w a6 n6) (hnil : a4 = none → n4 = 0 ∧ c4 = 0) :
    Calls Try.prog 5 #[.slice a1 n1 c1, .slice a2 n2 c2, .slice a3 n3 c3, .slice a4 n4 c4, .slice a5 n5 c5, .slice a6 n6 c6, .string nm] w fun e w' => e = .returned (.bool true) ∧ Below w.heap.size w w' := by
  have zb := zb13 a1 a2 a3 a4 a5 a6 n1 n2 n3 n4 n5 n6 c1 c2 c3 c4 c5 c6 nm w s1 s2 s3 s4 s5 s6
  have S1 : Hid (StrsAt w a1 n1) := s1
  have S2 : Hid (StrsAt w a2 n2) := s2
  have S3 : Hid (StrsAt w a3 n3) := s3
  have S4 : Hid (StrsAt w a4 n4) := s4
  have S5 : Hid (StrsAt w a5 n5) := s5
  have S6 : Hid (StrsAt w a6 n6) := s6
  have HNIL : Hid (a4 = none → n4 = 0 ∧ c4 = 0) := hnil
  clear s1 s2 s3 s4 s5 s6 hnil
  go_enter Try.func5, Try.ntmps5
  go_wp2_with fail
  refine zb.mono ?_
  rintro e w ⟨⟨bb, rfl⟩, rfl⟩
  clear zb
  cases bb
  · go_wp2_with fail
    go_ret
    exact ⟨rfl, Below.refl _ _⟩
  by_cases hnm : nm.size ≤ 1048576
  rotate_left
  · go_wp2_with fail
    go_ret
    exact ⟨rfl, Below.refl _ _⟩
  have big := big14 nm.size a1 a2 a3 a4 a5 a6 n1 n2 n3 n4 n5 n6 c1 c2 c3 c4 c5 c6 w S1.out S2.out S3.out S4.out S5.out S6.out (by omega) (by omega)
  go_wp2_with fail
  refine big.mono ?_
  rintro e w ⟨⟨bb, rfl, hbb⟩, rfl⟩
  clear big
  cases bb
  rotate_left
  · clear hbb
    go_wp2_with fail
    go_ret
    exact ⟨rfl, Below.refl _ _⟩
  obtain ⟨l1, l2, l3, l4, l5, l6⟩ := hbb rfl
  clear hbb
  by_cases h5 : n4 = n5
  rotate_left
  · have q5 : ((n5 : Int) != (n4 : Int)) = true := by rw [bne_iff_ne]; omega
    go_wp2_with fail
    go_ret
    exact ⟨rfl, Below.refl _ _⟩
  by_cases h6 : n4 = n6
  rotate_left
  · have q5 : ((n5 : Int) != (n4 : Int)) = false := by rw [bne_eq_false_iff_eq]; omega
    have q6 : ((n6 : Int) != (n4 : Int)) = true := by rw [bne_iff_ne]; omega
    clear h5
    go_wp2_with fail
    go_ret
    exact ⟨rfl, Below.refl _ _⟩
  subst h5 h6
  have dm := dom15 a4 a5 a6 _ c4 c5 c6 w S4.out S5.out S6.out l4 HNIL.out
  go_wp2_with fail
  refine dm.mono ?_
  rintro e w1 ⟨ad, cd, rfl, hb1, hd1⟩
  clear dm
  have B1 : Hid (Below w.heap.size w w1) := hb1
  have D1 : Hid (DomsAt w1 ad n4) := hd1
  clear hb1 hd1
  go_wp2_with fail
  refine (put16_front _ _ _ _ _ (StrsAt.later S1.out (bel_trans B1.out ((Below.refl _ _).alloc (Nat.le_refl _) _))) l1).mono ?_
  rintro e w2 ⟨b1, d1, rfl, hb⟩
  obtain ⟨st, nb⟩ := step hb
  have B2 : Hid (Below w.heap.size w w2) := bel_trans B1.out st
  have D2 : Hid (DomsAt w2 ad n4) := DomsAt.later D1.out st
  have T2 : Hid (w2.heap[w1.heap.size]? = some (.cells #[.string nm, .string ⟨#[]⟩, .string nm] 38 (0, 0))) := nb
  clear hb st nb
  go_wp2_with fail
  refine (put16_back _ _ _ _ _ (StrsAt.later S1.out (bel_trans B2.out ((Below.refl _ _).alloc (Nat.le_refl _) _))) l1).mono ?_
  rintro e w3 ⟨b2, d2, rfl, hb⟩
  obtain ⟨st, nb⟩ := step hb
  have B3 : Hid (Below w.heap.size w w3) := bel_trans B2.out st
  have D3 : Hid (DomsAt w3 ad n4) := DomsAt.later D2.out st
  have T3 : Hid (w3.heap[w1.heap.size]? = some (.cells #[.string nm, .string ⟨#[]⟩, .string nm] 38 (0, 0))) := kept T2.out st
  have N1_3 : Hid (w3.heap[w2.heap.size]? = some (.cells #[.slice b1 (n1 + 1) d1, .slice a2 n2 c2, .slice a3 n3 c3, .slice ad n4 cd] 41 (0, 0))) := nb
  clear hb st nb
  go_wp2_with fail
  refine (put16_front _ _ _ _ _ (StrsAt.later S2.out (bel_trans B3.out ((Below.refl _ _).alloc (Nat.le_refl _) _))) l2).mono ?_
  rintro e w4 ⟨b3, d3, rfl, hb⟩
  obtain ⟨st, nb⟩ := step hb
  have B4 : Hid (Below w.heap.size w w4) := bel_trans B3.out st
  have D4 : Hid (DomsAt w4 ad n4) := DomsAt.later D3.out st
  have T4 : Hid (w4.heap[w1.heap.size]? = some (.cells #[.string nm, .string ⟨#[]⟩, .string nm] 38 (0, 0))) := kept T3.out st
  have N1_4 : Hid (w4.heap[w2.heap.size]? = some (.cells #[.slice b1 (n1 + 1) d1, .slice a2 n2 c2, .slice a3 n3 c3, .slice ad n4 cd] 41 (0, 0))) := kept N1_3.out st
  have N2_4 : Hid (w4.heap[w3.heap.size]? = some (.cells #[.slice b2 (n1 + 1) d2, .slice a2 n2 c2, .slice a3 n3 c3, .slice ad n4 cd] 41 (0, 0))) := nb
  clear hb st nb
  go_wp2_with fail
  refine (put16_back _ _ _ _ _ (StrsAt.later S2.out (bel_trans B4.out ((Below.refl _ _).alloc (Nat.le_refl _) _))) l2).mono ?_
  rintro e w5 ⟨b4, d4, rfl, hb⟩
  obtain ⟨st, nb⟩ := step hb
  have B5 : Hid (Below w.heap.size w w5) := bel_trans B4.out st
  have D5 : Hid (DomsAt w5 ad n4) := DomsAt.later D4.out st
  have T5 : Hid (w5.heap[w1.heap.size]? = some (.cells #[.string nm, .string ⟨#[]⟩, .string nm] 38 (0, 0))) := kept T4.out st
  have N1_5 : Hid (w5.heap[w2.heap.size]? = some (.cells #[.slice b1 (n1 + 1) d1, .slice a2 n2 c2, .slice a3 n3 c3, .slice ad n4 cd] 41 (0, 0))) := kept N1_4.out st
  have N2_5 : Hid (w5.heap[w3.heap.size]? = some (.cells #[.slice b2 (n1 + 1) d2, .slice a2 n2 c2, .slice a3 n3 c3, .slice ad n4 cd] 41 (0, 0))) := kept N2_4.out st
  have N3_5 : Hid (w5.heap[w4.heap.size]? = some (.cells #[.slice a1 n1 c1, .slice b3 (n2 + 1) d3, .slice a3 n3 c3, .slice ad n4 cd] 41 (0, 0))) := nb
  clear hb st nb
  go_wp2_with fail
  refine (put16_front _ _ _ _ _ (StrsAt.later S3.out (bel_trans B5.out ((Below.refl _ _).alloc (Nat.le_refl _) _))) l3).mono ?_
  rintro e w6 ⟨b5, d5, rfl, hb⟩
  obtain ⟨st, nb⟩ := step hb
  have B6 : Hid (Below w.heap.size w w6) := bel_trans B5.out st
  have D6 : Hid (DomsAt w6 ad n4) := DomsAt.later D5.out st
  have T6 : Hid (w6.heap[w1.heap.size]? = some (.cells #[.string nm, .string ⟨#[]⟩, .string nm] 38 (0, 0))) := kept T5.out st
  have N1_6 : Hid (w6.heap[w2.heap.size]? = some (.cells #[.slice b1 (n1 + 1) d1, .slice a2 n2 c2, .slice a3 n3 c3, .slice ad n4 cd] 41 (0, 0))) := kept N1_5.out st
  have N2_6 : Hid (w6.heap[w3.heap.size]? = some (.cells #[.slice b2 (n1 + 1) d2, .slice a2 n2 c2, .slice a3 n3 c3, .slice ad n4 cd] 41 (0, 0))) := kept N2_5.out st
  have N3_6 : Hid (w6.heap[w4.heap.size]? = some (.cells #[.slice a1 n1 c1, .slice b3 (n2 + 1) d3, .slice a3 n3 c3, .slice ad n4 cd] 41 (0, 0))) := kept N3_5.out st
  have N4_6 : Hid (w6.heap[w5.heap.size]? = some (.cells #[.slice a1 n1 c1, .slice b4 (n2 + 1) d4, .slice a3 n3 c3, .slice ad n4 cd] 41 (0, 0))) := nb
  clear hb st nb
  go_wp2_with fail
  refine (put16_back _ _ _ _ _ (StrsAt.later S3.out (bel_trans B6.out ((Below.refl _ _).alloc (Nat.le_refl _) _))) l3).mono ?_
  rintro e w7 ⟨b6, d6, rfl, hb⟩
  obtain ⟨st, nb⟩ := step hb
  have B7 : Hid (Below w.heap.size w w7) := bel_trans B6.out st
  have D7 : Hid (DomsAt w7 ad n4) := DomsAt.later D6.out st
  have T7 : Hid (w7.heap[w1.heap.size]? = some (.cells #[.string nm, .string ⟨#[]⟩, .string nm] 38 (0, 0))) := kept T6.out st
  have N1_7 : Hid (w7.heap[w2.heap.size]? = some (.cells #[.slice b1 (n1 + 1) d1, .slice a2 n2 c2, .slice a3 n3 c3, .slice ad n4 cd] 41 (0, 0))) := kept N1_6.out st
  have N2_7 : Hid (w7.heap[w3.heap.size]? = some (.cells #[.slice b2 (n1 + 1) d2, .slice a2 n2 c2, .slice a3 n3 c3, .slice ad n4 cd] 41 (0, 0))) := kept N2_6.out st
  have N3_7 : Hid (w7.heap[w4.heap.size]? = some (.cells #[.slice a1 n1 c1, .slice b3 (n2 + 1) d3, .slice a3 n3 c3, .slice ad n4 cd] 41 (0, 0))) := kept N3_6.out st
  have N4_7 : Hid (w7.heap[w5.heap.size]? = some (.cells #[.slice a1 n1 c1, .slice b4 (n2 + 1) d4, .slice a3 n3 c3, .slice ad n4 cd] 41 (0, 0))) := kept N4_6.out st
  have N5_7 : Hid (w7.heap[w6.heap.size]? = some (.cells #[.slice a1 n1 c1, .slice a2 n2 c2, .slice b5 (n3 + 1) d5, .slice ad n4 cd] 41 (0, 0))) := nb
  clear hb st nb
  obtain ⟨q0, q1, q2⟩ := cell_of_three T7.out
  have hlt : w1.heap.size < w7.heap.size := lt_of_block T7.out
  go_wp2_with fail
  clear q0 q1 q2 hlt
  refine (putD_front _ _ _ _ _ _ _ (DomsAt.later D7.out ((Below.refl _ _).alloc (Nat.le_refl _) _)) l4).mono ?_
  rintro e w8 ⟨b7, d7, rfl, hb⟩
  obtain ⟨st, nb⟩ := step hb
  have B8 : Hid (Below w.heap.size w w8) := bel_trans B7.out st
  have D8 : Hid (DomsAt w8 ad n4) := DomsAt.later D7.out st
  have T8 : Hid (w8.heap[w1.heap.size]? = some (.cells #[.string nm, .string ⟨#[]⟩, .string nm] 38 (0, 0))) := kept T7.out st
  have N1_8 : Hid (w8.heap[w2.heap.size]? = some (.cells #[.slice b1 (n1 + 1) d1, .slice a2 n2 c2, .slice a3 n3 c3, .slice ad n4 cd] 41 (0, 0))) := kept N1_7.out st
  have N2_8 : Hid (w8.heap[w3.heap.size]? = some (.cells #[.slice b2 (n1 + 1) d2, .slice a2 n2 c2, .slice a3 n3 c3, .slice ad n4 cd] 41 (0, 0))) := kept N2_7.out st
  have N3_8 : Hid (w8.heap[w4.heap.size]? = some (.cells #[.slice a1 n1 c1, .slice b3 (n2 + 1) d3, .slice a3 n3 c3, .slice ad n4 cd] 41 (0, 0))) := kept N3_7.out st
  have N4_8 : Hid (w8.heap[w5.heap.size]? = some (.cells #[.slice a1 n1 c1, .slice b4 (n2 + 1) d4, .slice a3 n3 c3, .slice ad n4 cd] 41 (0, 0))) := kept N4_7.out st
  have N5_8 : Hid (w8.heap[w6.heap.size]? = some (.cells #[.slice a1 n1 c1, .slice a2 n2 c2, .slice b5 (n3 + 1) d5, .slice ad n4 cd] 41 (0, 0))) := kept N5_7.out st
  have N6_8 : Hid (w8.heap[w7.heap.size]? = some (.cells #[.slice a1 n1 c1, .slice a2 n2 c2, .slice b6 (n3 + 1) d6, .slice ad n4 cd] 41 (0, 0))) := nb
  clear hb st nb
  obtain ⟨q0, q1, q2⟩ := cell_of_three T8.out
  have hlt : w1.heap.size < w8.heap.size := lt_of_block T8.out
  go_wp2_with fail
  clear q0 q1 q2 hlt
  refine (putD_back _ _ _ _ _ _ _ (DomsAt.later D8.out ((Below.refl _ _).alloc (Nat.le_refl _) _)) l4).mono ?_
  rintro e w9 ⟨b8, d8, rfl, hb⟩
  obtain ⟨st, nb⟩ := step hb
  have B9 : Hid (Below w.heap.size w w9) := bel_trans B8.out st
  have D9 : Hid (DomsAt w9 ad n4) := DomsAt.later D8.out st
  have T9 : Hid (w9.heap[w1.heap.size]? = some (.cells #[.string nm, .string ⟨#[]⟩, .string nm] 38 (0, 0))) := kept T8.out st
  have N1_9 : Hid (w9.heap[w2.heap.size]? = some (.cells #[.slice b1 (n1 + 1) d1, .slice a2 n2 c2, .slice a3 n3 c3, .slice ad n4 cd] 41 (0, 0))) := kept N1_8.out st
  have N2_9 : Hid (w9.heap[w3.heap.size]? = some (.cells #[.slice b2 (n1 + 1) d2, .slice a2 n2 c2, .slice a3 n3 c3, .slice ad n4 cd] 41 (0, 0))) := kept N2_8.out st
  have N3_9 : Hid (w9.heap[w4.heap.size]? = some (.cells #[.slice a1 n1 c1, .slice b3 (n2 + 1) d3, .slice a3 n3 c3, .slice ad n4 cd] 41 (0, 0))) := kept N3_8.out st
  have N4_9 : Hid (w9.heap[w5.heap.size]? = some (.cells #[.slice a1 n1 c1, .slice b4 (n2 + 1) d4, .slice a3 n3 c3, .slice ad n4 cd] 41 (0, 0))) := kept N4_8.out st
  have N5_9 : Hid (w9.heap[w6.heap.size]? = some (.cells #[.slice a1 n1 c1, .slice a2 n2 c2, .slice b5 (n3 + 1) d5, .slice ad n4 cd] 41 (0, 0))) := kept N5_8.out st
  have N6_9 : Hid (w9.heap[w7.heap.size]? = some (.cells #[.slice a1 n1 c1, .slice a2 n2 c2, .slice b6 (n3 + 1) d6, .slice ad n4 cd] 41 (0, 0))) := kept N6_8.out st
  have N7_9 : Hid (w9.heap[w8.heap.size]? = some (.cells #[.slice a1 n1 c1, .slice a2 n2 c2, .slice a3 n3 c3, .slice b7 (n4 + 1) d7] 41 (0, 0))) := nb
  clear hb st nb
  obtain ⟨y1, k1⟩ := cut0 25 1 (by kernel_rfl) (fun _ => by kernel_rfl) a1 n1 c1
  obtain ⟨y2, k2⟩ := cut0 25 1 (by kernel_rfl) (fun _ => by kernel_rfl) a2 n2 c2
  obtain ⟨y3, k3⟩ := cut0 25 1 (by kernel_rfl) (fun _ => by kernel_rfl) a3 n3 c3
  obtain ⟨y4, k4⟩ := cut0 35 3 (by kernel_rfl) (fun _ => by kernel_rfl) ad n4 cd
  go_wp2_with fail
  go_region
  clear k1 k2 k3 k4
  go_wp2_with fail
  refine (empty_yes _ _ _ _ _ _ _ _ _).mono ?_
  rintro e E1 ⟨rfl, hb⟩
  obtain ⟨st, nb⟩ := step2 hb
  have A1 : Hid (Below w.heap.size w E1) := bel_trans B9.out st
  have M1_1 : Hid (E1.heap[w2.heap.size]? = some (.cells #[.slice b1 (n1 + 1) d1, .slice a2 n2 c2, .slice a3 n3 c3, .slice ad n4 cd] 41 (0, 0))) := kept N1_9.out st
  have M2_1 : Hid (E1.heap[w3.heap.size]? = some (.cells #[.slice b2 (n1 + 1) d2, .slice a2 n2 c2, .slice a3 n3 c3, .slice ad n4 cd] 41 (0, 0))) := kept N2_9.out st
  have M3_1 : Hid (E1.heap[w4.heap.size]? = some (.cells #[.slice a1 n1 c1, .slice b3 (n2 + 1) d3, .slice a3 n3 c3, .slice ad n4 cd] 41 (0, 0))) := kept N3_9.out st
  have M4_1 : Hid (E1.heap[w5.heap.size]? = some (.cells #[.slice a1 n1 c1, .slice b4 (n2 + 1) d4, .slice a3 n3 c3, .slice ad n4 cd] 41 (0, 0))) := kept N4_9.out st
  have M5_1 : Hid (E1.heap[w6.heap.size]? = some (.cells #[.slice a1 n1 c1, .slice a2 n2 c2, .slice b5 (n3 + 1) d5, .slice ad n4 cd] 41 (0, 0))) := kept N5_9.out st
  have M6_1 : Hid (E1.heap[w7.heap.size]? = some (.cells #[.slice a1 n1 c1, .slice a2 n2 c2, .slice b6 (n3 + 1) d6, .slice ad n4 cd] 41 (0, 0))) := kept N6_9.out st
  have M7_1 : Hid (E1.heap[w8.heap.size]? = some (.cells #[.slice a1 n1 c1, .slice a2 n2 c2, .slice a3 n3 c3, .slice b7 (n4 + 1) d7] 41 (0, 0))) := kept N7_9.out st
  have M8_1 : Hid (E1.heap[w9.heap.size]? = some (.cells #[.slice a1 n1 c1, .slice a2 n2 c2, .slice a3 n3 c3, .slice b8 (n4 + 1) d8] 41 (0, 0))) := nb
  clear hb st nb
  obtain ⟨q0, q1, q2, q3⟩ := cells4 M1_1.out
  go_wp2_with fail
  clear q0 q1 q2 q3
  refine (empty_no _ _ _ _ _ _ _ _ _ _ _ _ _ (by omega) (by omega) (by omega) (by omega) (by omega)).mono ?_
  rintro e E2 ⟨rfl, hb⟩
  have A2 : Hid (Below w.heap.size w E2) := bel_trans A1.out hb
  have M2_2 : Hid (E2.heap[w3.heap.size]? = some (.cells #[.slice b2 (n1 + 1) d2, .slice a2 n2 c2, .slice a3 n3 c3, .slice ad n4 cd] 41 (0, 0))) := kept M2_1.out hb
  have M3_2 : Hid (E2.heap[w4.heap.size]? = some (.cells #[.slice a1 n1 c1, .slice b3 (n2 + 1) d3, .slice a3 n3 c3, .slice ad n4 cd] 41 (0, 0))) := kept M3_1.out hb
  have M4_2 : Hid (E2.heap[w5.heap.size]? = some (.cells #[.slice a1 n1 c1, .slice b4 (n2 + 1) d4, .slice a3 n3 c3, .slice ad n4 cd] 41 (0, 0))) := kept M4_1.out hb
  have M5_2 : Hid (E2.heap[w6.heap.size]? = some (.cells #[.slice a1 n1 c1, .slice a2 n2 c2, .slice b5 (n3 + 1) d5, .slice ad n4 cd] 41 (0, 0))) := kept M5_1.out hb
  have M6_2 : Hid (E2.heap[w7.heap.size]? = some (.cells #[.slice a1 n1 c1, .slice a2 n2 c2, .slice b6 (n3 + 1) d6, .slice ad n4 cd] 41 (0, 0))) := kept M6_1.out hb
  have M7_2 : Hid (E2.heap[w8.heap.size]? = some (.cells #[.slice a1 n1 c1, .slice a2 n2 c2, .slice a3 n3 c3, .slice b7 (n4 + 1) d7] 41 (0, 0))) := kept M7_1.out hb
  have M8_2 : Hid (E2.heap[w9.heap.size]? = some (.cells #[.slice a1 n1 c1, .slice a2 n2 c2, .slice a3 n3 c3, .slice b8 (n4 + 1) d8] 41 (0, 0))) := kept M8_1.out hb
  clear hb
  obtain ⟨q0, q1, q2, q3⟩ := cells4 M2_2.out
  go_wp2_with fail
  clear q0 q1 q2 q3
  refine (empty_no _ _ _ _ _ _ _ _ _ _ _ _ _ (by omega) (by omega) (by omega) (by omega) (by omega)).mono ?_
  rintro e E3 ⟨rfl, hb⟩
  have A3 : Hid (Below w.heap.size w E3) := bel_trans A2.out hb
  have M3_3 : Hid (E3.heap[w4.heap.size]? = some (.cells #[.slice a1 n1 c1, .slice b3 (n2 + 1) d3, .slice a3 n3 c3, .slice ad n4 cd] 41 (0, 0))) := kept M3_2.out hb
  have M4_3 : Hid (E3.heap[w5.heap.size]? = some (.cells #[.slice a1 n1 c1, .slice b4 (n2 + 1) d4, .slice a3 n3 c3, .slice ad n4 cd] 41 (0, 0))) := kept M4_2.out hb
  have M5_3 : Hid (E3.heap[w6.heap.size]? = some (.cells #[.slice a1 n1 c1, .slice a2 n2 c2, .slice b5 (n3 + 1) d5, .slice ad n4 cd] 41 (0, 0))) := kept M5_2.out hb
  have M6_3 : Hid (E3.heap[w7.heap.size]? = some (.cells #[.slice a1 n1 c1, .slice a2 n2 c2, .slice b6 (n3 + 1) d6, .slice ad n4 cd] 41 (0, 0))) := kept M6_2.out hb
  have M7_3 : Hid (E3.heap[w8.heap.size]? = some (.cells #[.slice a1 n1 c1, .slice a2 n2 c2, .slice a3 n3 c3, .slice b7 (n4 + 1) d7] 41 (0, 0))) := kept M7_2.out hb
  have M8_3 : Hid (E3.heap[w9.heap.size]? = some (.cells #[.slice a1 n1 c1, .slice a2 n2 c2, .slice a3 n3 c3, .slice b8 (n4 + 1) d8] 41 (0, 0))) := kept M8_2.out hb
  clear hb
  obtain ⟨q0, q1, q2, q3⟩ := cells4 M3_3.out
  go_wp2_with fail
  clear q0 q1 q2 q3
  refine (empty_no _ _ _ _ _ _ _ _ _ _ _ _ _ (by omega) (by omega) (by omega) (by omega) (by omega)).mono ?_
  rintro e E4 ⟨rfl, hb⟩
  have A4 : Hid (Below w.heap.size w E4) := bel_trans A3.out hb
  have M4_4 : Hid (E4.heap[w5.heap.size]? = some (.cells #[.slice a1 n1 c1, .slice b4 (n2 + 1) d4, .slice a3 n3 c3, .slice ad n4 cd] 41 (0, 0))) := kept M4_3.out hb
  have M5_4 : Hid (E4.heap[w6.heap.size]? = some (.cells #[.slice a1 n1 c1, .slice a2 n2 c2, .slice b5 (n3 + 1) d5, .slice ad n4 cd] 41 (0, 0))) := kept M5_3.out hb
  have M6_4 : Hid (E4.heap[w7.heap.size]? = some (.cells #[.slice a1 n1 c1, .slice a2 n2 c2, .slice b6 (n3 + 1) d6, .slice ad n4 cd] 41 (0, 0))) := kept M6_3.out hb
  have M7_4 : Hid (E4.heap[w8.heap.size]? = some (.cells #[.slice a1 n1 c1, .slice a2 n2 c2, .slice a3 n3 c3, .slice b7 (n4 + 1) d7] 41 (0, 0))) := kept M7_3.out hb
  have M8_4 : Hid (E4.heap[w9.heap.size]? = some (.cells #[.slice a1 n1 c1, .slice a2 n2 c2, .slice a3 n3 c3, .slice b8 (n4 + 1) d8] 41 (0, 0))) := kept M8_3.out hb
  clear hb
  obtain ⟨q0, q1, q2, q3⟩ := cells4 M4_4.out
  go_wp2_with fail
  clear q0 q1 q2 q3
  refine (empty_no _ _ _ _ _ _ _ _ _ _ _ _ _ (by omega) (by omega) (by omega) (by omega) (by omega)).mono ?_
  rintro e E5 ⟨rfl, hb⟩
  have A5 : Hid (Below w.heap.size w E5) := bel_trans A4.out hb
  have M5_5 : Hid (E5.heap[w6.heap.size]? = some (.cells #[.slice a1 n1 c1, .slice a2 n2 c2, .slice b5 (n3 + 1) d5, .slice ad n4 cd] 41 (0, 0))) := kept M5_4.out hb
  have M6_5 : Hid (E5.heap[w7.heap.size]? = some (.cells #[.slice a1 n1 c1, .slice a2 n2 c2, .slice b6 (n3 + 1) d6, .slice ad n4 cd] 41 (0, 0))) := kept M6_4.out hb
  have M7_5 : Hid (E5.heap[w8.heap.size]? = some (.cells #[.slice a1 n1 c1, .slice a2 n2 c2, .slice a3 n3 c3, .slice b7 (n4 + 1) d7] 41 (0, 0))) := kept M7_4.out hb
  have M8_5 : Hid (E5.heap[w9.heap.size]? = some (.cells #[.slice a1 n1 c1, .slice a2 n2 c2, .slice a3 n3 c3, .slice b8 (n4 + 1) d8] 41 (0, 0))) := kept M8_4.out hb
  clear hb
  obtain ⟨q0, q1, q2, q3⟩ := cells4 M5_5.out
  go_wp2_with fail
  clear q0 q1 q2 q3
  refine (empty_no _ _ _ _ _ _ _ _ _ _ _ _ _ (by omega) (by omega) (by omega) (by omega) (by omega)).mono ?_
  rintro e E6 ⟨rfl, hb⟩
  have A6 : Hid (Below w.heap.size w E6) := bel_trans A5.out hb
  have M6_6 : Hid (E6.heap[w7.heap.size]? = some (.cells #[.slice a1 n1 c1, .slice a2 n2 c2, .slice b6 (n3 + 1) d6, .slice ad n4 cd] 41 (0, 0))) := kept M6_5.out hb
  have M7_6 : Hid (E6.heap[w8.heap.size]? = some (.cells #[.slice a1 n1 c1, .slice a2 n2 c2, .slice a3 n3 c3, .slice b7 (n4 + 1) d7] 41 (0, 0))) := kept M7_5.out hb
  have M8_6 : Hid (E6.heap[w9.heap.size]? = some (.cells #[.slice a1 n1 c1, .slice a2 n2 c2, .slice a3 n3 c3, .slice b8 (n4 + 1) d8] 41 (0, 0))) := kept M8_5.out hb
  clear hb
  obtain ⟨q0, q1, q2, q3⟩ := cells4 M6_6.out
  go_wp2_with fail
  clear q0 q1 q2 q3
  refine (empty_no _ _ _ _ _ _ _ _ _ _ _ _ _ (by omega) (by omega) (by omega) (by omega) (by omega)).mono ?_
  rintro e E7 ⟨rfl, hb⟩
  have A7 : Hid (Below w.heap.size w E7) := bel_trans A6.out hb
  have M7_7 : Hid (E7.heap[w8.heap.size]? = some (.cells #[.slice a1 n1 c1, .slice a2 n2 c2, .slice a3 n3 c3, .slice b7 (n4 + 1) d7] 41 (0, 0))) := kept M7_6.out hb
  have M8_7 : Hid (E7.heap[w9.heap.size]? = some (.cells #[.slice a1 n1 c1, .slice a2 n2 c2, .slice a3 n3 c3, .slice b8 (n4 + 1) d8] 41 (0, 0))) := kept M8_6.out hb
  clear hb
  obtain ⟨q0, q1, q2, q3⟩ := cells4 M7_7.out
  go_wp2_with fail
  clear q0 q1 q2 q3
  refine (empty_no _ _ _ _ _ _ _ _ _ _ _ _ _ (by omega) (by omega) (by omega) (by omega) (by omega)).mono ?_
  rintro e E8 ⟨rfl, hb⟩
  have A8 : Hid (Below w.heap.size w E8) := bel_trans A7.out hb
  have M8_8 : Hid (E8.heap[w9.heap.size]? = some (.cells #[.slice a1 n1 c1, .slice a2 n2 c2, .slice a3 n3 c3, .slice b8 (n4 + 1) d8] 41 (0, 0))) := kept M8_7.out hb
  clear hb
  obtain ⟨q0, q1, q2, q3⟩ := cells4 M8_8.out
  go_wp2_with fail
  clear q0 q1 q2 q3
  refine (empty_no _ _ _ _ _ _ _ _ _ _ _ _ _ (by omega) (by omega) (by omega) (by omega) (by omega)).mono ?_
  rintro e E9 ⟨rfl, hb⟩
  have A9 : Hid (Below w.heap.size w E9) := bel_trans A8.out hb
  clear hb
  go_wp2_with fail
  go_ret
  exact ⟨rfl, A9.out⟩
end Go.Proofs.Qxb6618616a.nm
