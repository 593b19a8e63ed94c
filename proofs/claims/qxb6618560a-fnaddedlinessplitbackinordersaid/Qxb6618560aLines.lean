/-
  zzCountNL and zzSame at a line that came in ('LineAt'), whether it is nil, empty or holds bytes.
-/
import Derived.Test.Qxb6618560aPlain
namespace Go.Proofs.Qxb6618560a
open Go.RowKit Go.Conc

def u8s (l : List Int) : List Value := l.map (Value.int .u8)
theorem u8s_len (l : List Int) : (u8s l).length = l.length := by simp [u8s]
theorem u8s_at {l : List Int} {j : Nat} (h : j < l.length) : (u8s l)[j]? = some (.int .u8 (l.getD j 0)) := by
  simp [u8s, List.getElem?_eq_getElem h]
theorem u8s_one {l : List Int} : ∀ u ∈ u8s l, u.oneCell' = true := by
  intro u hu
  obtain ⟨z, _, rfl⟩ := List.mem_map.1 hu
  rfl
theorem spot_of_cell {w : World} {a : Addr} {u : Value} (h : w.cell? a = some u) : a.spot = none := by
  cases hs : a.spot with
  | none => rfl
  | some x =>
    unfold World.cell? at h
    split at h <;> simp [hs] at h

/-- A line with bytes in it: its address, its cells. -/
theorem line_cells {W : World} {v : Value} {l : List Int} (h : LineAt W v (u8s l)) : (l = [] ∧ ∃ a c, v = .slice a 0 c) ∨ ∃ b off c, v = .slice (some ⟨b, off, none⟩) l.length c ∧ ∀ j, j < l.length → W.cell? ⟨b, off + j, none⟩ = some (.int .u8 (l.getD j 0)) := by
  rcases h with ⟨rfl, he⟩ | ⟨a, c, rfl, hc, _⟩
  · left
    refine ⟨?_, _, _, rfl⟩
    cases l with
    | nil => rfl
    | cons x r => simp [u8s] at he
  · by_cases hl : l = []
    · left
      subst hl
      exact ⟨rfl, _, _, rfl⟩
    · right
      have hp : 0 < l.length := List.length_pos_iff.2 hl
      have h0 := spot_of_cell (hc 0 _ (u8s_at hp))
      obtain ⟨b, off, sp⟩ := a
      have hs : sp = none := h0
      subst hs
      exact ⟨b, off, c, by rw [u8s_len], fun j hj => by have := hc j _ (u8s_at hj); rwa [Addr.add_lit] at this⟩

theorem count_line {W w : World} {v : Value} {l : List Int} (h : LineAt W v (u8s l)) (hb : Below W.heap.size W w) (hn : l.length ≤ 1048576) :
    Calls Try.prog 5 #[v] w fun e w' => e = .returned (.int .i64 (cntNL l)) ∧ w' = w := by
  rcases line_cells h with ⟨rfl, a, c, rfl⟩ | ⟨b, off, c, rfl, hc⟩
  · exact count5_zero a c w
  · exact count5 b off c l w hn fun j hj => later_cell hb (hc j hj)

theorem same_line {W w : World} {v : Value} {l : List Int} (h : LineAt W v (u8s l)) (hb : Below W.heap.size W w) (hn : l.length ≤ 1048576) (g fr c : Nat) (hx : ∀ j, j < l.length → w.cell? ⟨g, fr + j, none⟩ = some (.int .u8 (l.getD j 0))) :
    Calls Try.prog 9 #[.slice (some ⟨g, fr, none⟩) l.length c, v] w fun e w' => e = .returned (.bool true) ∧ ∃ q, w' = w.drewN q := by
  rcases line_cells h with ⟨rfl, a, c2, rfl⟩ | ⟨b, off, c2, rfl, hc⟩
  · exact same9_zero _ a c c2 w
  · exact same9 g fr b off l.length c c2 (fun j => l.getD j 0) w hn hx fun j hj => later_cell hb (hc j hj)
end Go.Proofs.Qxb6618560a
