/-
  THE WALKS of SetMaxDepth and SetMaxLength, each on every way; over fmt's stop for whatever text it gives.
-/
import Derived.Test.Qxb6619000aFmtDec
namespace Go.Proofs.Qxb6619000aFmt
open Go.RowKit Go.Extern.Stop Go.Stop Go.Extern

theorem errIs_nil : ErrIs true .nilIface := .inl ⟨rfl, rfl⟩
theorem errIs_held (u : TypeId) (x : Value) : ErrIs false (.iface u x) := .inr ⟨rfl, u, x, rfl⟩
theorem ErrIs.yes {ev : Value} (h : ErrIs true ev) : ev = .nilIface := by
  rcases h with ⟨_, h⟩ | ⟨h, _⟩
  · exact h
  · cases h
theorem ErrIs.no {ev : Value} (h : ErrIs false ev) : ∃ u x, ev = .iface u x := by
  rcases h with ⟨h, _⟩ | ⟨_, h⟩
  · cases h
  · exact h

/-- What a setter answers: an error that is nil exactly where the limit is in its range. -/
def SetAns (ok : Bool) (b : Nat) (ml md : Int) (fin : Bool) (w : World) (e : Ending) (w' : World) : Prop := ∃ ev, e = .returned ev ∧ ErrIs ok ev ∧ DecAt w' b ml md fin ∧ w.grownBy w' (some b)

theorem bad_ans {w : World} {b : Nat} {ml md : Int} {fin : Bool} (h : DecAt w b ml md fin) (o o' : Obj) (u : TypeId) (x : Value) : SetAns false b ml md fin w (.returned (.iface u x)) ((w.alloc o).alloc o').drew := by
  have bel : Below w.heap.size w ((w.alloc o).alloc o').drew := (((Below.refl _ _).alloc (Nat.le_refl _) o).alloc (by simp) o').drew
  exact ⟨_, rfl, errIs_held _ _, h.below bel, grown_below bel b⟩

set_option maxHeartbeats 1000000 in
theorem set7_ok (w : World) (b : Nat) (ml md d : Int) (fin : Bool) (h : DecAt w b ml md fin) (h0 : 0 ≤ d) (h1 : d ≤ 10000) :
    Calls Tryf.prog 7 #[.pointer (some ⟨b, 0, none⟩), .int .i64 d] w fun e w' => SetAns true b ml d fin w e w' := by
  have c5 : w.cell? ⟨b, 5, none⟩ = some (.int .i64 md) := h.cell 5
  have f5 := h.free 5
  have HH : Hid (DecAt w b ml md fin) := h
  clear h
  go_enter Tryf.func7, Tryf.ntmps7
  go_wp2
  go_ret
  exact ⟨_, rfl, errIs_nil, heap_setCell_same _ HH.out, grown_set _ _ _ _⟩
set_option maxHeartbeats 1000000 in
theorem set7_bad (F : Interp) (w : World) (b : Nat) (ml md d : Int) (fin : Bool) (hF : F.answers w.tape) (h : DecAt w b ml md fin) (hd : d < 0 ∨ 10000 < d) :
    Calls Tryf.prog 7 #[.pointer (some ⟨b, 0, none⟩), .int .i64 d] w fun e w' => SetAns false b ml md fin w e w' := by
  have HH : Hid (DecAt w b ml md fin) := h
  clear h
  have hF' := answers_open hF
  have k14 := call14
  have kg := guardF
  have kf := fmt0
  have kfr := fmt0r
  have k3 := op3_100
  have k3w := op3_100w
  have kp := ptr44
  have ke := elem44
  have ki := isErr44
  rcases hd with hd | hd
  · go_enter Tryf.func7, Tryf.ntmps7
    go_wp2
    go_ret
    exact bad_ans HH.out _ _ _ _
  · have hd0 : ¬ d < 0 := by omega
    go_enter Tryf.func7, Tryf.ntmps7
    go_wp2
    go_ret
    exact bad_ans HH.out _ _ _ _

set_option maxHeartbeats 214748364700 in
theorem set8_ok (w : World) (b : Nat) (ml md d : Int) (fin : Bool) (h : DecAt w b ml md fin) (h0 : 0 ≤ d) (h1 : d ≤ 2147483647) :
    Calls Tryf.prog 8 #[.pointer (some ⟨b, 0, none⟩), .int .i64 d] w fun e w' => SetAns true b d md fin w e w' := by
  have c4 : w.cell? ⟨b, 4, none⟩ = some (.int .i64 ml) := h.cell 4
  have f4 := h.free 4
  have HH : Hid (DecAt w b ml md fin) := h
  clear h
  go_enter Tryf.func8, Tryf.ntmps8
  go_wp2
  go_ret
  exact ⟨_, rfl, errIs_nil, heap_setCell_same _ HH.out, grown_set _ _ _ _⟩
set_option maxHeartbeats 214748364700 in
theorem set8_bad (F : Interp) (w : World) (b : Nat) (ml md d : Int) (fin : Bool) (hF : F.answers w.tape) (h : DecAt w b ml md fin) (hd : d < 0 ∨ 2147483647 < d) :
    Calls Tryf.prog 8 #[.pointer (some ⟨b, 0, none⟩), .int .i64 d] w fun e w' => SetAns false b ml md fin w e w' := by
  have HH : Hid (DecAt w b ml md fin) := h
  clear h
  have hF' := answers_open hF
  have k14 := call14
  have kg := guardF
  have kf := fmt1
  have kfr := fmt1r
  have k3 := op3_100
  have k3w := op3_100w
  have kp := ptr44
  have ke := elem44
  have ki := isErr44
  rcases hd with hd | hd
  · go_enter Tryf.func8, Tryf.ntmps8
    go_wp2
    go_ret
    exact bad_ans HH.out _ _ _ _
  · have hd0 : ¬ d < 0 := by omega
    go_enter Tryf.func8, Tryf.ntmps8
    go_wp2
    go_ret
    exact bad_ans HH.out _ _ _ _

theorem set7 (F : Interp) (w : World) (b : Nat) (ml d : Int) (fin : Bool) (hF : F.answers w.tape) (h : DecAt w b ml 256 fin) :
    Calls Tryf.prog 7 #[.pointer (some ⟨b, 0, none⟩), .int .i64 d] w fun e w' => SetAns (okD d) b ml (wantD d) fin w e w' := by
  by_cases h0 : 0 ≤ d
  · by_cases h1 : d ≤ 10000
    · have e1 : okD d = true := by simp [okD, h0, h1]
      have e2 : wantD d = d := by simp [wantD, e1]
      rw [e1, e2]
      exact set7_ok w b ml 256 d fin h h0 h1
    · have e1 : okD d = false := by simp [okD, h1]
      have e2 : wantD d = 256 := by simp [wantD, e1]
      rw [e1, e2]
      exact set7_bad F w b ml 256 d fin hF h (by omega)
  · have e1 : okD d = false := by simp [okD, h0]
    have e2 : wantD d = 256 := by simp [wantD, e1]
    rw [e1, e2]
    exact set7_bad F w b ml 256 d fin hF h (by omega)
theorem set8 (F : Interp) (w : World) (b : Nat) (md d : Int) (fin : Bool) (hF : F.answers w.tape) (h : DecAt w b 2147483647 md fin) :
    Calls Tryf.prog 8 #[.pointer (some ⟨b, 0, none⟩), .int .i64 d] w fun e w' => SetAns (okL d) b (wantL d) md fin w e w' := by
  by_cases h0 : 0 ≤ d
  · by_cases h1 : d ≤ 2147483647
    · have e1 : okL d = true := by simp [okL, h0, h1]
      have e2 : wantL d = d := by simp [wantL, e1]
      rw [e1, e2]
      exact set8_ok w b 2147483647 md d fin h h0 h1
    · have e1 : okL d = false := by simp [okL, h1]
      have e2 : wantL d = 2147483647 := by simp [wantL, e1]
      rw [e1, e2]
      exact set8_bad F w b 2147483647 md d fin hF h (by omega)
  · have e1 : okL d = false := by simp [okL, h0]
    have e2 : wantL d = 2147483647 := by simp [wantL, e1]
    rw [e1, e2]
    exact set8_bad F w b 2147483647 md d fin hF h (by omega)
end Go.Proofs.Qxb6619000aFmt
