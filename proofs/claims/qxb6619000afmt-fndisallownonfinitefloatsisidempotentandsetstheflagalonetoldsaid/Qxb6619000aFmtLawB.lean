/-
  THE SECOND LAW: FnDisallowNonFiniteFloatsIsIdempotentAndSetsTheFlagAlone returns true at every depth and length.
-/
import Derived.Test.Qxb6619000aFmtSet
namespace Go.Proofs.Qxb6619000aFmt
open Go.RowKit Go.Extern.Stop Go.Stop Go.Extern

theorem bel_trans {a b c : World} (h : Below a.heap.size a b) (k : Below b.heap.size b c) : Below a.heap.size a c := h.trans (k.mono h.size)

set_option maxRecDepth 20000 in
set_option maxHeartbeats 4000000 in
theorem law4 (F : Interp) (dp ln : Int) (w : World) (hF : F.answers w.tape) :
    Calls Tryf.prog 4 #[.int .i64 dp, .int .i64 ln] w fun e w' => e = .returned (.bool true) ∧ Below w.heap.size w w' := by
  have B_0 : Hid (Below w.heap.size w w) := Below.refl _ _
  have F_0 : Hid (F.answers w.tape) := hF
  clear hF
  go_enter Tryf.func4, Tryf.ntmps4
  go_wp2_with fail
  refine (new5 _).mono ?_
  rintro e w1 ⟨b0, rfl, hd, hle, hb⟩
  have B_1 : Hid (Below w.heap.size w w1) := bel_trans B_0.out hb
  have F_1 : Hid (F.answers w1.tape) := by rw [Hid, hb.tape]; exact F_0.out
  have D0_1 : Hid (DecAt w1 b0 2147483647 256 false) := hd
  have L0 : Hid (w.heap.size ≤ b0) := Nat.le_trans B_0.out.size hle
  clear hd hle hb
  go_wp2_with fail
  refine (set7 F _ _ _ _ _ F_1.out D0_1.out).mono ?_
  rintro e w2 ⟨ev1, rfl, hev, hd, hg⟩
  have E1 : Hid (ErrIs (okD dp) ev1) := hev
  clear hev
  have B_2 : Hid (Below w.heap.size w w2) := B_1.out.grown hg B_1.out.size (fun k e => by cases e; exact L0.out)
  have F_2 : Hid (F.answers w2.tape) := by rw [Hid, hg.tape]; exact F_1.out
  have D0_2 : Hid (DecAt w2 b0 2147483647 (wantD dp) false) := hd
  clear hd hg
  go_wp2_with fail
  refine (set8 F _ _ _ _ _ F_2.out D0_2.out).mono ?_
  rintro e w3 ⟨ev2, rfl, hev, hd, hg⟩
  have E2 : Hid (ErrIs (okL ln) ev2) := hev
  clear hev
  have B_3 : Hid (Below w.heap.size w w3) := B_2.out.grown hg B_2.out.size (fun k e => by cases e; exact L0.out)
  have F_3 : Hid (F.answers w3.tape) := by rw [Hid, hg.tape]; exact F_2.out
  have D0_3 : Hid (DecAt w3 b0 (wantL ln) (wantD dp) false) := hd
  clear hd hg
  go_wp2_with fail
  refine (new5 _).mono ?_
  rintro e w4 ⟨b1, rfl, hd, hle, hb⟩
  have B_4 : Hid (Below w.heap.size w w4) := bel_trans B_3.out hb
  have F_4 : Hid (F.answers w4.tape) := by rw [Hid, hb.tape]; exact F_3.out
  have D0_4 : Hid (DecAt w4 b0 (wantL ln) (wantD dp) false) := D0_3.out.below hb
  have N0_1 : Hid (b0 ≠ b1) := Nat.ne_of_lt (Nat.lt_of_lt_of_le (lt_of_block D0_3.out) hle)
  have D1_4 : Hid (DecAt w4 b1 2147483647 256 false) := hd
  have L1 : Hid (w.heap.size ≤ b1) := Nat.le_trans B_3.out.size hle
  clear hd hle hb
  go_wp2_with fail
  refine (set7 F _ _ _ _ _ F_4.out D1_4.out).mono ?_
  rintro e w5 ⟨ev3, rfl, hev, hd, hg⟩
  have E3 : Hid (ErrIs (okD dp) ev3) := hev
  clear hev
  have B_5 : Hid (Below w.heap.size w w5) := B_4.out.grown hg B_4.out.size (fun k e => by cases e; exact L1.out)
  have F_5 : Hid (F.answers w5.tape) := by rw [Hid, hg.tape]; exact F_4.out
  have D0_5 : Hid (DecAt w5 b0 (wantL ln) (wantD dp) false) := D0_4.out.other hg (N0_1.out)
  have D1_5 : Hid (DecAt w5 b1 2147483647 (wantD dp) false) := hd
  clear hd hg
  go_wp2_with fail
  refine (set8 F _ _ _ _ _ F_5.out D1_5.out).mono ?_
  rintro e w6 ⟨ev4, rfl, hev, hd, hg⟩
  have E4 : Hid (ErrIs (okL ln) ev4) := hev
  clear hev
  have B_6 : Hid (Below w.heap.size w w6) := B_5.out.grown hg B_5.out.size (fun k e => by cases e; exact L1.out)
  have F_6 : Hid (F.answers w6.tape) := by rw [Hid, hg.tape]; exact F_5.out
  have D0_6 : Hid (DecAt w6 b0 (wantL ln) (wantD dp) false) := D0_5.out.other hg (N0_1.out)
  have D1_6 : Hid (DecAt w6 b1 (wantL ln) (wantD dp) false) := hd
  clear hd hg
  go_wp2_with fail
  refine (dis6 _ _ _ _ _ D1_6.out).mono ?_
  rintro e w7 ⟨rfl, hd, hg⟩
  have B_7 : Hid (Below w.heap.size w w7) := B_6.out.grown hg B_6.out.size (fun k e => by cases e; exact L1.out)
  have F_7 : Hid (F.answers w7.tape) := by rw [Hid, hg.tape]; exact F_6.out
  have D0_7 : Hid (DecAt w7 b0 (wantL ln) (wantD dp) false) := D0_6.out.other hg (N0_1.out)
  have D1_7 : Hid (DecAt w7 b1 (wantL ln) (wantD dp) true) := hd
  clear hd hg
  go_wp2_with fail
  refine (new5 _).mono ?_
  rintro e w8 ⟨b2, rfl, hd, hle, hb⟩
  have B_8 : Hid (Below w.heap.size w w8) := bel_trans B_7.out hb
  have F_8 : Hid (F.answers w8.tape) := by rw [Hid, hb.tape]; exact F_7.out
  have D0_8 : Hid (DecAt w8 b0 (wantL ln) (wantD dp) false) := D0_7.out.below hb
  have N0_2 : Hid (b0 ≠ b2) := Nat.ne_of_lt (Nat.lt_of_lt_of_le (lt_of_block D0_7.out) hle)
  have D1_8 : Hid (DecAt w8 b1 (wantL ln) (wantD dp) true) := D1_7.out.below hb
  have N1_2 : Hid (b1 ≠ b2) := Nat.ne_of_lt (Nat.lt_of_lt_of_le (lt_of_block D1_7.out) hle)
  have D2_8 : Hid (DecAt w8 b2 2147483647 256 false) := hd
  have L2 : Hid (w.heap.size ≤ b2) := Nat.le_trans B_7.out.size hle
  clear hd hle hb
  go_wp2_with fail
  refine (set7 F _ _ _ _ _ F_8.out D2_8.out).mono ?_
  rintro e w9 ⟨ev5, rfl, hev, hd, hg⟩
  have E5 : Hid (ErrIs (okD dp) ev5) := hev
  clear hev
  have B_9 : Hid (Below w.heap.size w w9) := B_8.out.grown hg B_8.out.size (fun k e => by cases e; exact L2.out)
  have F_9 : Hid (F.answers w9.tape) := by rw [Hid, hg.tape]; exact F_8.out
  have D0_9 : Hid (DecAt w9 b0 (wantL ln) (wantD dp) false) := D0_8.out.other hg (N0_2.out)
  have D1_9 : Hid (DecAt w9 b1 (wantL ln) (wantD dp) true) := D1_8.out.other hg (N1_2.out)
  have D2_9 : Hid (DecAt w9 b2 2147483647 (wantD dp) false) := hd
  clear hd hg
  go_wp2_with fail
  refine (set8 F _ _ _ _ _ F_9.out D2_9.out).mono ?_
  rintro e w10 ⟨ev6, rfl, hev, hd, hg⟩
  have E6 : Hid (ErrIs (okL ln) ev6) := hev
  clear hev
  have B_10 : Hid (Below w.heap.size w w10) := B_9.out.grown hg B_9.out.size (fun k e => by cases e; exact L2.out)
  have F_10 : Hid (F.answers w10.tape) := by rw [Hid, hg.tape]; exact F_9.out
  have D0_10 : Hid (DecAt w10 b0 (wantL ln) (wantD dp) false) := D0_9.out.other hg (N0_2.out)
  have D1_10 : Hid (DecAt w10 b1 (wantL ln) (wantD dp) true) := D1_9.out.other hg (N1_2.out)
  have D2_10 : Hid (DecAt w10 b2 (wantL ln) (wantD dp) false) := hd
  clear hd hg
  go_wp2_with fail
  refine (dis6 _ _ _ _ _ D2_10.out).mono ?_
  rintro e w11 ⟨rfl, hd, hg⟩
  have B_11 : Hid (Below w.heap.size w w11) := B_10.out.grown hg B_10.out.size (fun k e => by cases e; exact L2.out)
  have F_11 : Hid (F.answers w11.tape) := by rw [Hid, hg.tape]; exact F_10.out
  have D0_11 : Hid (DecAt w11 b0 (wantL ln) (wantD dp) false) := D0_10.out.other hg (N0_2.out)
  have D1_11 : Hid (DecAt w11 b1 (wantL ln) (wantD dp) true) := D1_10.out.other hg (N1_2.out)
  have D2_11 : Hid (DecAt w11 b2 (wantL ln) (wantD dp) true) := hd
  clear hd hg
  go_wp2_with fail
  refine (dis6 _ _ _ _ _ D2_11.out).mono ?_
  rintro e w12 ⟨rfl, hd, hg⟩
  have B_12 : Hid (Below w.heap.size w w12) := B_11.out.grown hg B_11.out.size (fun k e => by cases e; exact L2.out)
  have F_12 : Hid (F.answers w12.tape) := by rw [Hid, hg.tape]; exact F_11.out
  have D0_12 : Hid (DecAt w12 b0 (wantL ln) (wantD dp) false) := D0_11.out.other hg (N0_2.out)
  have D1_12 : Hid (DecAt w12 b1 (wantL ln) (wantD dp) true) := D1_11.out.other hg (N1_2.out)
  have D2_12 : Hid (DecAt w12 b2 (wantL ln) (wantD dp) true) := hd
  clear hd hg
  go_wp2_with fail
  refine (opts9 _ _ _ _ _ D0_12.out).mono ?_
  rintro e w13 ⟨rfl, q, hq⟩
  have B_13 : Hid (Below w.heap.size w w13) := by rw [Hid, hq]; exact below_drewN B_12.out q
  have D0_13 : Hid (DecAt w13 b0 (wantL ln) (wantD dp) false) := by rw [Hid, hq]; exact D0_12.out
  have D1_13 : Hid (DecAt w13 b1 (wantL ln) (wantD dp) true) := by rw [Hid, hq]; exact D1_12.out
  have D2_13 : Hid (DecAt w13 b2 (wantL ln) (wantD dp) true) := by rw [Hid, hq]; exact D2_12.out
  clear hq
  go_wp2_with fail
  refine (opts9 _ _ _ _ _ D1_13.out).mono ?_
  rintro e w14 ⟨rfl, q, hq⟩
  have B_14 : Hid (Below w.heap.size w w14) := by rw [Hid, hq]; exact below_drewN B_13.out q
  have D0_14 : Hid (DecAt w14 b0 (wantL ln) (wantD dp) false) := by rw [Hid, hq]; exact D0_13.out
  have D1_14 : Hid (DecAt w14 b1 (wantL ln) (wantD dp) true) := by rw [Hid, hq]; exact D1_13.out
  have D2_14 : Hid (DecAt w14 b2 (wantL ln) (wantD dp) true) := by rw [Hid, hq]; exact D2_13.out
  clear hq
  go_wp2_with fail
  refine (opts9 _ _ _ _ _ D2_14.out).mono ?_
  rintro e w15 ⟨rfl, q, hq⟩
  have B_15 : Hid (Below w.heap.size w w15) := by rw [Hid, hq]; exact below_drewN B_14.out q
  have D0_15 : Hid (DecAt w15 b0 (wantL ln) (wantD dp) false) := by rw [Hid, hq]; exact D0_14.out
  have D1_15 : Hid (DecAt w15 b1 (wantL ln) (wantD dp) true) := by rw [Hid, hq]; exact D1_14.out
  have D2_15 : Hid (DecAt w15 b2 (wantL ln) (wantD dp) true) := by rw [Hid, hq]; exact D2_14.out
  clear hq
  have bel := B_15.out
  go_wp2_with (first | (go_at_call 10; refine (want10 _ _).mono ?_; rintro e wz ⟨rfl, rfl⟩) | (go_at_call 11; refine (want11 _ _).mono ?_; rintro e wz ⟨rfl, rfl⟩))
  go_ret
  exact ⟨rfl, bel⟩
end Go.Proofs.Qxb6619000aFmt
