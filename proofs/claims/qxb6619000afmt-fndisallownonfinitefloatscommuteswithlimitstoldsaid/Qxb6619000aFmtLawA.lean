/-
  THE FIRST LAW: FnDisallowNonFiniteFloatsCommutesWithLimits returns true at every depth and length.
-/
import Derived.Test.Qxb6619000aFmtSet
namespace Go.Proofs.Qxb6619000aFmt
open Go.RowKit Go.Extern.Stop Go.Stop Go.Extern

theorem bel_trans {a b c : World} (h : Below a.heap.size a b) (k : Below b.heap.size b c) : Below a.heap.size a c := h.trans (k.mono h.size)

theorem okD_ways (d : Int) : (okD d = true ∧ 0 ≤ d ∧ d ≤ 10000) ∨ (okD d = false ∧ 0 ≤ d ∧ decide (d ≤ 10000) = false) ∨ (okD d = false ∧ ¬ 0 ≤ d) := by
  by_cases h0 : 0 ≤ d
  · by_cases h1 : d ≤ 10000
    · exact .inl ⟨by simp [okD, h0, h1], h0, h1⟩
    · exact .inr (.inl ⟨by simp [okD, h1], h0, by simpa using h1⟩)
  · exact .inr (.inr ⟨by simp [okD, h0], h0⟩)
theorem okL_ways (d : Int) : (okL d = true ∧ 0 ≤ d ∧ d ≤ 2147483647) ∨ (okL d = false ∧ 0 ≤ d ∧ decide (d ≤ 2147483647) = false) ∨ (okL d = false ∧ ¬ 0 ≤ d) := by
  by_cases h0 : 0 ≤ d
  · by_cases h1 : d ≤ 2147483647
    · exact .inl ⟨by simp [okL, h0, h1], h0, h1⟩
    · exact .inr (.inl ⟨by simp [okL, h1], h0, by simpa using h1⟩)
  · exact .inr (.inr ⟨by simp [okL, h0], h0⟩)

set_option maxRecDepth 20000 in
set_option maxHeartbeats 4000000 in
theorem law3 (F : Interp) (dp ln : Int) (w : World) (hF : F.answers w.tape) :
    Calls Tryf.prog 3 #[.int .i64 dp, .int .i64 ln] w fun e w' => e = .returned (.bool true) ∧ Below w.heap.size w w' := by
  have B_0 : Hid (Below w.heap.size w w) := Below.refl _ _
  have F_0 : Hid (F.answers w.tape) := hF
  clear hF
  go_enter Tryf.func3, Tryf.ntmps3
  go_wp2_with fail
  refine (new5 _).mono ?_
  rintro e w1 ⟨b0, rfl, hd, hle, hb⟩
  have B_1 : Hid (Below w.heap.size w w1) := bel_trans B_0.out hb
  have F_1 : Hid (F.answers w1.tape) := by rw [Hid, hb.tape]; exact F_0.out
  have D0_1 : Hid (DecAt w1 b0 2147483647 256 false) := hd
  have L0 : Hid (w.heap.size ≤ b0) := Nat.le_trans B_0.out.size hle
  clear hd hle hb
  go_wp2_with fail
  refine (dis6 _ _ _ _ _ D0_1.out).mono ?_
  rintro e w2 ⟨rfl, hd, hg⟩
  have B_2 : Hid (Below w.heap.size w w2) := B_1.out.grown hg B_1.out.size (fun k e => by cases e; exact L0.out)
  have F_2 : Hid (F.answers w2.tape) := by rw [Hid, hg.tape]; exact F_1.out
  have D0_2 : Hid (DecAt w2 b0 2147483647 256 true) := hd
  clear hd hg
  go_wp2_with fail
  refine (set7 F _ _ _ _ _ F_2.out D0_2.out).mono ?_
  rintro e w3 ⟨ev1, rfl, hev, hd, hg⟩
  have E1 : Hid (ErrIs (okD dp) ev1) := hev
  clear hev
  have B_3 : Hid (Below w.heap.size w w3) := B_2.out.grown hg B_2.out.size (fun k e => by cases e; exact L0.out)
  have F_3 : Hid (F.answers w3.tape) := by rw [Hid, hg.tape]; exact F_2.out
  have D0_3 : Hid (DecAt w3 b0 2147483647 (wantD dp) true) := hd
  clear hd hg
  go_wp2_with fail
  refine (set8 F _ _ _ _ _ F_3.out D0_3.out).mono ?_
  rintro e w4 ⟨ev2, rfl, hev, hd, hg⟩
  have E2 : Hid (ErrIs (okL ln) ev2) := hev
  clear hev
  have B_4 : Hid (Below w.heap.size w w4) := B_3.out.grown hg B_3.out.size (fun k e => by cases e; exact L0.out)
  have F_4 : Hid (F.answers w4.tape) := by rw [Hid, hg.tape]; exact F_3.out
  have D0_4 : Hid (DecAt w4 b0 (wantL ln) (wantD dp) true) := hd
  clear hd hg
  go_wp2_with fail
  refine (new5 _).mono ?_
  rintro e w5 ⟨b1, rfl, hd, hle, hb⟩
  have B_5 : Hid (Below w.heap.size w w5) := bel_trans B_4.out hb
  have F_5 : Hid (F.answers w5.tape) := by rw [Hid, hb.tape]; exact F_4.out
  have D0_5 : Hid (DecAt w5 b0 (wantL ln) (wantD dp) true) := D0_4.out.below hb
  have N0_1 : Hid (b0 ≠ b1) := Nat.ne_of_lt (Nat.lt_of_lt_of_le (lt_of_block D0_4.out) hle)
  have D1_5 : Hid (DecAt w5 b1 2147483647 256 false) := hd
  have L1 : Hid (w.heap.size ≤ b1) := Nat.le_trans B_4.out.size hle
  clear hd hle hb
  go_wp2_with fail
  refine (set7 F _ _ _ _ _ F_5.out D1_5.out).mono ?_
  rintro e w6 ⟨ev3, rfl, hev, hd, hg⟩
  have E3 : Hid (ErrIs (okD dp) ev3) := hev
  clear hev
  have B_6 : Hid (Below w.heap.size w w6) := B_5.out.grown hg B_5.out.size (fun k e => by cases e; exact L1.out)
  have F_6 : Hid (F.answers w6.tape) := by rw [Hid, hg.tape]; exact F_5.out
  have D0_6 : Hid (DecAt w6 b0 (wantL ln) (wantD dp) true) := D0_5.out.other hg (N0_1.out)
  have D1_6 : Hid (DecAt w6 b1 2147483647 (wantD dp) false) := hd
  clear hd hg
  go_wp2_with fail
  refine (set8 F _ _ _ _ _ F_6.out D1_6.out).mono ?_
  rintro e w7 ⟨ev4, rfl, hev, hd, hg⟩
  have E4 : Hid (ErrIs (okL ln) ev4) := hev
  clear hev
  have B_7 : Hid (Below w.heap.size w w7) := B_6.out.grown hg B_6.out.size (fun k e => by cases e; exact L1.out)
  have F_7 : Hid (F.answers w7.tape) := by rw [Hid, hg.tape]; exact F_6.out
  have D0_7 : Hid (DecAt w7 b0 (wantL ln) (wantD dp) true) := D0_6.out.other hg (N0_1.out)
  have D1_7 : Hid (DecAt w7 b1 (wantL ln) (wantD dp) false) := hd
  clear hd hg
  go_wp2_with fail
  refine (dis6 _ _ _ _ _ D1_7.out).mono ?_
  rintro e w8 ⟨rfl, hd, hg⟩
  have B_8 : Hid (Below w.heap.size w w8) := B_7.out.grown hg B_7.out.size (fun k e => by cases e; exact L1.out)
  have F_8 : Hid (F.answers w8.tape) := by rw [Hid, hg.tape]; exact F_7.out
  have D0_8 : Hid (DecAt w8 b0 (wantL ln) (wantD dp) true) := D0_7.out.other hg (N0_1.out)
  have D1_8 : Hid (DecAt w8 b1 (wantL ln) (wantD dp) true) := hd
  clear hd hg
  go_wp2_with fail
  refine (opts9 _ _ _ _ _ D0_8.out).mono ?_
  rintro e w9 ⟨rfl, q, hq⟩
  have B_9 : Hid (Below w.heap.size w w9) := by rw [Hid, hq]; exact below_drewN B_8.out q
  have D0_9 : Hid (DecAt w9 b0 (wantL ln) (wantD dp) true) := by rw [Hid, hq]; exact D0_8.out
  have D1_9 : Hid (DecAt w9 b1 (wantL ln) (wantD dp) true) := by rw [Hid, hq]; exact D1_8.out
  clear hq
  go_wp2_with fail
  refine (opts9 _ _ _ _ _ D1_9.out).mono ?_
  rintro e w10 ⟨rfl, q, hq⟩
  have B_10 : Hid (Below w.heap.size w w10) := by rw [Hid, hq]; exact below_drewN B_9.out q
  have D0_10 : Hid (DecAt w10 b0 (wantL ln) (wantD dp) true) := by rw [Hid, hq]; exact D0_9.out
  have D1_10 : Hid (DecAt w10 b1 (wantL ln) (wantD dp) true) := by rw [Hid, hq]; exact D1_9.out
  clear hq
  have bel := B_10.out
  rcases okD_ways dp with ⟨e1, h0, h1⟩ | ⟨e1, h0, h1⟩ | ⟨e1, h0⟩
  · obtain rfl := (show ErrIs true ev1 from e1 ▸ E1.out).yes
    obtain rfl := (show ErrIs true ev3 from e1 ▸ E3.out).yes
    clear e1 E1 E3
    rcases okL_ways ln with ⟨e2, g0, g1⟩ | ⟨e2, g0, g1⟩ | ⟨e2, g0⟩
    · obtain rfl := (show ErrIs true ev2 from e2 ▸ E2.out).yes
      obtain rfl := (show ErrIs true ev4 from e2 ▸ E4.out).yes
      clear e2 E2 E4
      go_wp2_with (first | (go_at_call 10; refine (want10 _ _).mono ?_; rintro e wz ⟨rfl, rfl⟩) | (go_at_call 11; refine (want11 _ _).mono ?_; rintro e wz ⟨rfl, rfl⟩))
      go_ret
      exact ⟨rfl, bel⟩
    · obtain ⟨u2, x2, rfl⟩ := (show ErrIs false ev2 from e2 ▸ E2.out).no
      obtain ⟨u4, x4, rfl⟩ := (show ErrIs false ev4 from e2 ▸ E4.out).no
      clear e2 E2 E4
      go_wp2_with (first | (go_at_call 10; refine (want10 _ _).mono ?_; rintro e wz ⟨rfl, rfl⟩) | (go_at_call 11; refine (want11 _ _).mono ?_; rintro e wz ⟨rfl, rfl⟩))
      go_ret
      exact ⟨rfl, bel⟩
    · obtain ⟨u2, x2, rfl⟩ := (show ErrIs false ev2 from e2 ▸ E2.out).no
      obtain ⟨u4, x4, rfl⟩ := (show ErrIs false ev4 from e2 ▸ E4.out).no
      clear e2 E2 E4
      go_wp2_with (first | (go_at_call 10; refine (want10 _ _).mono ?_; rintro e wz ⟨rfl, rfl⟩) | (go_at_call 11; refine (want11 _ _).mono ?_; rintro e wz ⟨rfl, rfl⟩))
      go_ret
      exact ⟨rfl, bel⟩
  · obtain ⟨u1, x1, rfl⟩ := (show ErrIs false ev1 from e1 ▸ E1.out).no
    obtain ⟨u3, x3, rfl⟩ := (show ErrIs false ev3 from e1 ▸ E3.out).no
    clear e1 E1 E3
    rcases okL_ways ln with ⟨e2, g0, g1⟩ | ⟨e2, g0, g1⟩ | ⟨e2, g0⟩
    · obtain rfl := (show ErrIs true ev2 from e2 ▸ E2.out).yes
      obtain rfl := (show ErrIs true ev4 from e2 ▸ E4.out).yes
      clear e2 E2 E4
      go_wp2_with (first | (go_at_call 10; refine (want10 _ _).mono ?_; rintro e wz ⟨rfl, rfl⟩) | (go_at_call 11; refine (want11 _ _).mono ?_; rintro e wz ⟨rfl, rfl⟩))
      go_ret
      exact ⟨rfl, bel⟩
    · obtain ⟨u2, x2, rfl⟩ := (show ErrIs false ev2 from e2 ▸ E2.out).no
      obtain ⟨u4, x4, rfl⟩ := (show ErrIs false ev4 from e2 ▸ E4.out).no
      clear e2 E2 E4
      go_wp2_with (first | (go_at_call 10; refine (want10 _ _).mono ?_; rintro e wz ⟨rfl, rfl⟩) | (go_at_call 11; refine (want11 _ _).mono ?_; rintro e wz ⟨rfl, rfl⟩))
      go_ret
      exact ⟨rfl, bel⟩
    · obtain ⟨u2, x2, rfl⟩ := (show ErrIs false ev2 from e2 ▸ E2.out).no
      obtain ⟨u4, x4, rfl⟩ := (show ErrIs false ev4 from e2 ▸ E4.out).no
      clear e2 E2 E4
      go_wp2_with (first | (go_at_call 10; refine (want10 _ _).mono ?_; rintro e wz ⟨rfl, rfl⟩) | (go_at_call 11; refine (want11 _ _).mono ?_; rintro e wz ⟨rfl, rfl⟩))
      go_ret
      exact ⟨rfl, bel⟩
  · obtain ⟨u1, x1, rfl⟩ := (show ErrIs false ev1 from e1 ▸ E1.out).no
    obtain ⟨u3, x3, rfl⟩ := (show ErrIs false ev3 from e1 ▸ E3.out).no
    clear e1 E1 E3
    rcases okL_ways ln with ⟨e2, g0, g1⟩ | ⟨e2, g0, g1⟩ | ⟨e2, g0⟩
    · obtain rfl := (show ErrIs true ev2 from e2 ▸ E2.out).yes
      obtain rfl := (show ErrIs true ev4 from e2 ▸ E4.out).yes
      clear e2 E2 E4
      go_wp2_with (first | (go_at_call 10; refine (want10 _ _).mono ?_; rintro e wz ⟨rfl, rfl⟩) | (go_at_call 11; refine (want11 _ _).mono ?_; rintro e wz ⟨rfl, rfl⟩))
      go_ret
      exact ⟨rfl, bel⟩
    · obtain ⟨u2, x2, rfl⟩ := (show ErrIs false ev2 from e2 ▸ E2.out).no
      obtain ⟨u4, x4, rfl⟩ := (show ErrIs false ev4 from e2 ▸ E4.out).no
      clear e2 E2 E4
      go_wp2_with (first | (go_at_call 10; refine (want10 _ _).mono ?_; rintro e wz ⟨rfl, rfl⟩) | (go_at_call 11; refine (want11 _ _).mono ?_; rintro e wz ⟨rfl, rfl⟩))
      go_ret
      exact ⟨rfl, bel⟩
    · obtain ⟨u2, x2, rfl⟩ := (show ErrIs false ev2 from e2 ▸ E2.out).no
      obtain ⟨u4, x4, rfl⟩ := (show ErrIs false ev4 from e2 ▸ E4.out).no
      clear e2 E2 E4
      go_wp2_with (first | (go_at_call 10; refine (want10 _ _).mono ?_; rintro e wz ⟨rfl, rfl⟩) | (go_at_call 11; refine (want11 _ _).mono ?_; rintro e wz ⟨rfl, rfl⟩))
      go_ret
      exact ⟨rfl, bel⟩
end Go.Proofs.Qxb6619000aFmt
