/-
  THE LOG IN MEMORY: the block of the Log that ZZnewAddLog lays, as a literal of nineteen cells; what stays of it behind each step of 'add'. No walk in this text.
-/
import Derived.Test.Qxb6618560aRows
import Derived.WalkKit
import Derived.WalkSpells
import Derived.WalkLawsBesides
import Derived.Conc.SmallLaws
import Derived.Conc.LoneSelectN
import Derived.Laws.AppendOwnNone
namespace Go.Proofs.Qxb6618560a
open Go.RowKit Go.Conc

/-- The nineteen cells of the Log. -/
def logC (cd : Nat) (v : Value) (k A : Int) (wk sp : Nat) : Array Value :=
  #[.string ⟨#[45]⟩, .pointer none, .int .i32 0, .int .u32 0, .pointer (some ⟨cd, 0, none⟩), v, .int .i64 k, .int .u64 A, .int .u64 0, .int .u64 0, .int .u64 0, .int .u64 0,
    .bool false, .chan (some wk), .chan (some sp), .pointer none, .bool false, .int .u64 0, .nilIface]

/-- The Log lies at block lb; all that the call owns from 'base' on is none of its. -/
structure LogPart (W w : World) (lb base wk cd sp : Nat) (v : Value) (k A : Int) : Prop where
  below : Below W.heap.size W w
  blk : w.heap[lb]? = some (.cells (logC cd v k A wk sp) 47 (0, 0))
  wake : w.heap[wk]? = some (.chan 1 #[] false 0 0 false)
  lbLo : W.heap.size ≤ lb
  lbHi : lb < base
  wkHi : wk < base
  baseLe : base ≤ w.heap.size

section
variable {W w w' : World} {lb base wk cd sp : Nat} {v : Value} {k A : Int}

theorem heap_setCell_same {b o : Nat} {cs : Array Value} {t : TypeId} {fz : Nat × Nat} (u : Value) (h : w.heap[b]? = some (.cells cs t fz)) : (w.setCell ⟨b, o, none⟩ u).heap[b]? = some (.cells (cs.setIfInBounds o u) t fz) := by
  have hlt := lt_of_block h
  have h' : w.heap[b] = .cells cs t fz := by simpa [Array.getElem?_eq_getElem hlt] using h
  show (w.heap.modify b _)[b]? = _
  rw [Array.getElem?_eq_getElem (by simpa using hlt), Array.getElem_modify_self, h']
  rfl
theorem LogPart.ne (h : LogPart W w lb base wk cd sp v k A) : wk ≠ lb := by
  intro e
  have h1 := h.wake
  rw [e, h.blk] at h1
  cases h1
theorem LogPart.store (h : LogPart W w lb base wk cd sp v k A) (o : Nat) (u : Value) {v' : Value} {k' A' : Int} (e : (logC cd v k A wk sp).setIfInBounds o u = logC cd v' k' A' wk sp) :
    LogPart W (w.setCell ⟨lb, o, none⟩ u) lb base wk cd sp v' k' A' where
  below := h.below.setCell h.lbLo u
  blk := by rw [heap_setCell_same u h.blk, e]
  wake := by rw [Below.heap_setCell _ _ _ _ h.ne]; exact h.wake
  lbLo := h.lbLo
  lbHi := h.lbHi
  wkHi := h.wkHi
  baseLe := by simpa [World.setCell] using h.baseLe
theorem LogPart.setV (h : LogPart W w lb base wk cd sp v k A) (u : Value) : LogPart W (w.setCell ⟨lb, 5, none⟩ u) lb base wk cd sp u k A := h.store 5 u rfl
theorem LogPart.setK (h : LogPart W w lb base wk cd sp v k A) (k' : Int) : LogPart W (w.setCell ⟨lb, 6, none⟩ (.int .i64 k')) lb base wk cd sp v k' A := h.store 6 _ rfl
theorem LogPart.setA (h : LogPart W w lb base wk cd sp v k A) (A' : Int) : LogPart W (w.setCell ⟨lb, 7, none⟩ (.int .u64 A')) lb base wk cd sp v k A' := h.store 7 _ rfl
theorem LogPart.grown {row : Option Nat} (h : LogPart W w lb base wk cd sp v k A) (hg : w.grownBy w' row) (hr : ∀ g, row = some g → base ≤ g) : LogPart W w' lb base wk cd sp v k A where
  below := h.below.grown hg (Nat.le_trans h.lbLo (Nat.le_trans (Nat.le_of_lt h.lbHi) h.baseLe)) (fun g e => by have := hr g e; have := h.lbLo; have := h.lbHi; omega)
  blk := by rw [hg.block lb (Nat.lt_of_lt_of_le h.lbHi h.baseLe) (fun e => by have := hr lb e.symm; have := h.lbHi; omega)]; exact h.blk
  wake := by rw [hg.block wk (Nat.lt_of_lt_of_le h.wkHi h.baseLe) (fun e => by have := hr wk e.symm; have := h.wkHi; omega)]; exact h.wake
  lbLo := h.lbLo
  lbHi := h.lbHi
  wkHi := h.wkHi
  baseLe := Nat.le_trans h.baseLe hg.size
theorem LogPart.alloc (h : LogPart W w lb base wk cd sp v k A) (o : Obj) : LogPart W (w.alloc o) lb base wk cd sp v k A where
  below := h.below.alloc (Nat.le_trans h.lbLo (Nat.le_trans (Nat.le_of_lt h.lbHi) h.baseLe)) o
  blk := by rw [Below.heap_alloc _ _ _ (Nat.lt_of_lt_of_le h.lbHi h.baseLe)]; exact h.blk
  wake := by rw [Below.heap_alloc _ _ _ (Nat.lt_of_lt_of_le h.wkHi h.baseLe)]; exact h.wake
  lbLo := h.lbLo
  lbHi := h.lbHi
  wkHi := h.wkHi
  baseLe := by have := h.baseLe; simp; omega
theorem LogPart.cell (h : LogPart W w lb base wk cd sp v k A) (o : Nat) : w.cell? ⟨lb, o, none⟩ = (logC cd v k A wk sp)[o]? := by
  simp [World.cell?, h.blk]
theorem LogPart.free (h : LogPart W w lb base wk cd sp v k A) (o : Nat) : w.frozen? ⟨lb, o, none⟩ = false := by
  simp [World.frozen?, h.blk]
end

/-- What is owned has the shape of a slice. -/
theorem own_shape {w : World} {base : Nat} {v : Value} {n : Nat} {xs : List Value} (h : w.ownsRow base 5 1 v n xs) : ∃ ao cap, v = .slice ao n cap := by
  obtain ⟨_, ⟨rfl, rfl⟩ | ⟨g, cap, cur, rfl, _⟩⟩ := h
  · exact ⟨_, _, rfl⟩
  · exact ⟨_, _, rfl⟩
theorem own_row {w : World} {base : Nat} {v : Value} {n : Nat} {xs : List Value} (h : w.ownsRow base 5 1 v n xs) : ∀ g, v.ownBlock = some g → base ≤ g := fun g e => (h.lt g e).1

theorem info5 : (Try.prog.info? 5).map (fun i => (i.zero, i.size, i.bytes)) = some (some (.int .u8 0), 1, 1) := by kernel_rfl
theorem bytes35 : ∃ i, Try.prog.info? 35 = some i ∧ i.bytes = 0 := by
  have h : (Try.prog.info? 35).map (·.bytes) = some 0 := by kernel_rfl
  obtain ⟨i, hi, hb⟩ := Option.map_eq_some_iff.1 h
  exact ⟨i, hi, hb⟩
theorem mk1 (w : World) : (Instr.makeChan 33 (.int .i64 1)).run Try.prog w = .ok (.chan (some w.heap.size)) (w.alloc (.chan 1 #[] false 0 0 false)) := by
  obtain ⟨i, hi, hb⟩ := bytes35
  simpa using run_makeChan (P := Try.prog) (w := w) Try.underlying33 hi .i64 1 (by omega) (by rw [hb]; omega)
theorem mk0 (w : World) : (Instr.makeChan 33 (.int .i64 0)).run Try.prog w = .ok (.chan (some w.heap.size)) (w.alloc (.chan 0 #[] false 0 0 false)) := by
  obtain ⟨i, hi, hb⟩ := bytes35
  simpa using run_makeChan (P := Try.prog) (w := w) Try.underlying33 hi .i64 0 (by omega) (by rw [hb]; omega)
end Go.Proofs.Qxb6618560a
