/-
  THE WALKS of the Decoder's makers, setters and readers: the Decoder as a literal of nine cells; whatever text fmt gives, an error that is not nil where the limit is out of its range.
-/
import Derived.Test.Qxb6619000aFmtErr
import Derived.Deep.QuietTactic
import Derived.BigQuiet
namespace Go.Proofs.Qxb6619000aFmt
open Go.RowKit Go.Extern.Stop Go.Stop Go.Extern

/-- The nine cells of a Decoder. -/
def dec (ml md : Int) (fin : Bool) : Array Value :=
  #[.nilIface, .bool false, .bool false, .int .u8 0, .int .i64 ml, .int .i64 md, .bool fin, .slice none 0 0, .slice none 0 0]
def DecAt (w : World) (b : Nat) (ml md : Int) (fin : Bool) : Prop := w.heap[b]? = some (.cells (dec ml md fin) 39 (0, 0))
def okD (d : Int) : Bool := decide (0 ≤ d) && decide (d ≤ 10000)
def wantD (d : Int) : Int := if okD d then d else 256
def okL (n : Int) : Bool := decide (0 ≤ n) && decide (n ≤ 2147483647)
def wantL (n : Int) : Int := if okL n then n else 2147483647
/-- The error ev is nil exactly where ok. -/
def ErrIs (ok : Bool) (ev : Value) : Prop := (ok = true ∧ ev = .nilIface) ∨ (ok = false ∧ ∃ u x, ev = .iface u x)

theorem heap_setCell_same {w : World} {b o : Nat} {cs : Array Value} {t : TypeId} {fz : Nat × Nat} (u : Value) (h : w.heap[b]? = some (.cells cs t fz)) : (w.setCell ⟨b, o, none⟩ u).heap[b]? = some (.cells (cs.setIfInBounds o u) t fz) := by
  have hlt := lt_of_block h
  have h' : w.heap[b] = .cells cs t fz := by simpa [Array.getElem?_eq_getElem hlt] using h
  show (w.heap.modify b _)[b]? = _
  rw [Array.getElem?_eq_getElem (by simpa using hlt), Array.getElem_modify_self, h']
  rfl
theorem grown_set (w : World) (b o : Nat) (u : Value) : w.grownBy (w.setCell ⟨b, o, none⟩ u) (some b) :=
  ⟨rfl, rfl, rfl, by simp [World.setCell], fun k _ hk => Below.heap_setCell _ _ _ _ (fun e => hk (by rw [e]))⟩
theorem grown_below {w w' : World} (h : Below w.heap.size w w') (b : Nat) : w.grownBy w' (some b) := ⟨h.os, h.tape, h.output, h.size, fun k hk _ => h.block k hk⟩
theorem DecAt.cell {w : World} {b : Nat} {ml md : Int} {fin : Bool} (h : DecAt w b ml md fin) (o : Nat) : w.cell? ⟨b, o, none⟩ = (dec ml md fin)[o]? := by
  unfold DecAt at h
  simp [World.cell?, h]
theorem DecAt.free {w : World} {b : Nat} {ml md : Int} {fin : Bool} (h : DecAt w b ml md fin) (o : Nat) : w.frozen? ⟨b, o, none⟩ = false := by
  unfold DecAt at h
  simp [World.frozen?, h]
theorem DecAt.below {w w' : World} {b : Nat} {ml md : Int} {fin : Bool} (h : DecAt w b ml md fin) (hb : Below w.heap.size w w') : DecAt w' b ml md fin := (hb.block b (lt_of_block h)).trans h
theorem DecAt.other {w w' : World} {b c : Nat} {ml md : Int} {fin : Bool} (h : DecAt w b ml md fin) (hg : w.grownBy w' (some c)) (hne : b ≠ c) : DecAt w' b ml md fin := (hg.block b (lt_of_block h) (fun e => hne (Option.some.inj e))).trans h

set_option maxHeartbeats 400000 in
theorem new12 (w : World) : Calls Tryf.prog 12 #[.nilIface] w fun e w' => ∃ b, e = .returned (.pointer (some ⟨b, 0, none⟩)) ∧ DecAt w' b 2147483647 256 false ∧ w.heap.size ≤ b ∧ Below w.heap.size w w' := by
  go_enter Tryf.func12, Tryf.ntmps12
  go_wp2
  go_ret
  refine ⟨w.heap.size + 1, rfl, ?_, by omega, ((Below.refl _ _).alloc (Nat.le_refl _) _).alloc (by simp) _⟩
  show ((w.heap.push _).push _)[w.heap.size + 1]? = _
  simp only [Array.getElem?_push, Array.size_push]
  rw [if_pos trivial]
  rfl
set_option maxHeartbeats 400000 in
theorem new5 (w : World) : Calls Tryf.prog 5 #[] w fun e w' => ∃ b, e = .returned (.pointer (some ⟨b, 0, none⟩)) ∧ DecAt w' b 2147483647 256 false ∧ w.heap.size ≤ b ∧ Below w.heap.size w w' := by
  have c := new12 w
  go_enter Tryf.func5, Tryf.ntmps5
  go_wp2_with (go_at_call 12; refine c.mono ?_; rintro e w' ⟨b, rfl, h1, h2, h3⟩)
  go_ret
  exact ⟨b, rfl, h1, h2, h3⟩
set_option maxHeartbeats 400000 in
theorem dis6 (w : World) (b : Nat) (ml md : Int) (fin : Bool) (h : DecAt w b ml md fin) : Calls Tryf.prog 6 #[.pointer (some ⟨b, 0, none⟩)] w fun e w' => e = .returned (.tuple #[]) ∧ DecAt w' b ml md true ∧ w.grownBy w' (some b) := by
  have c6 : w.cell? ⟨b, 6, none⟩ = some (.bool fin) := h.cell 6
  have f6 := h.free 6
  have HH : Hid (DecAt w b ml md fin) := h
  clear h
  go_enter Tryf.func6, Tryf.ntmps6
  go_wp2
  go_end0
  exact ⟨rfl, heap_setCell_same _ HH.out, grown_set _ _ _ _⟩
set_option maxHeartbeats 400000 in
theorem want11 (d : Int) (w : World) : Calls Tryf.prog 11 #[.int .i64 d] w fun e w' => e = .returned (.int .i64 (wantD d)) ∧ w' = w := by
  by_cases h0 : 0 ≤ d
  · by_cases h1 : d ≤ 10000
    · have e : wantD d = d := by simp [wantD, okD, h0, h1]
      rw [e]; clear e
      go_enter Tryf.func11, Tryf.ntmps11
      go_wp2
      go_ret
      exact ⟨rfl, rfl⟩
    · have e : wantD d = 256 := by simp [wantD, okD, h1]
      rw [e]; clear e
      go_enter Tryf.func11, Tryf.ntmps11
      go_wp2
      go_ret
      exact ⟨rfl, rfl⟩
  · have e : wantD d = 256 := by simp [wantD, okD, h0]
    rw [e]; clear e
    go_enter Tryf.func11, Tryf.ntmps11
    go_wp2
    go_ret
    exact ⟨rfl, rfl⟩
set_option maxHeartbeats 400000 in
theorem want10 (d : Int) (w : World) : Calls Tryf.prog 10 #[.int .i64 d] w fun e w' => e = .returned (.int .i64 (wantL d)) ∧ w' = w := by
  by_cases h0 : 0 ≤ d
  · by_cases h1 : d ≤ 2147483647
    · have e : wantL d = d := by simp [wantL, okL, h0, h1]
      rw [e]; clear e
      go_enter Tryf.func10, Tryf.ntmps10
      go_wp2
      go_ret
      exact ⟨rfl, rfl⟩
    · have e : wantL d = 2147483647 := by simp [wantL, okL, h1]
      rw [e]; clear e
      go_enter Tryf.func10, Tryf.ntmps10
      go_wp2
      go_ret
      exact ⟨rfl, rfl⟩
  · have e : wantL d = 2147483647 := by simp [wantL, okL, h0]
    rw [e]; clear e
    go_enter Tryf.func10, Tryf.ntmps10
    go_wp2
    go_ret
    exact ⟨rfl, rfl⟩
set_option maxHeartbeats 400000 in
theorem opts9 (w : World) (b : Nat) (ml md : Int) (fin : Bool) (h : DecAt w b ml md fin) : Calls Tryf.prog 9 #[.pointer (some ⟨b, 0, none⟩)] w fun e w' => e = .returned (.tuple #[.int .u8 0, .int .i64 ml, .int .i64 md, .bool fin]) ∧ ∃ q, w' = w.drewN q := by
  have c3 : w.cell? ⟨b, 3, none⟩ = some (.int .u8 0) := h.cell 3
  have c4 : w.cell? ⟨b, 4, none⟩ = some (.int .i64 ml) := h.cell 4
  have c5 : w.cell? ⟨b, 5, none⟩ = some (.int .i64 md) := h.cell 5
  have c6 : w.cell? ⟨b, 6, none⟩ = some (.bool fin) := h.cell 6
  clear h
  go_enter Tryf.func9, Tryf.ntmps9
  go_wp2_with fail
  go_quiet (fail)
  go_wp2_with fail
  exact bodyPost_ret (v := .tuple #[.int .u8 0, .int .i64 ml, .int .i64 md, .bool fin]) (by simp [results, Tryf.results9, go_sem]) rfl ⟨rfl, _, rfl⟩
end Go.Proofs.Qxb6619000aFmt
