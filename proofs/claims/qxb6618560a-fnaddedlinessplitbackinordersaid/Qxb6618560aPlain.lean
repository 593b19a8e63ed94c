/-
  THE PLAIN LAW: no Go in sight. 'bts row k': the first k lines, each ended by a newline; 'offs row k': where line k begins; 'tot row k': the sum that the law bounds.
-/
import Derived.Test.Qxb6618560aRead
namespace Go.Proofs.Qxb6618560a.Plain
open Go

def bts (row : Nat → List Int) : Nat → List Int
  | 0 => []
  | k + 1 => bts row k ++ (row k ++ [10])
def offs (row : Nat → List Int) (k : Nat) : Nat := (bts row k).length
def tot (row : Nat → List Int) : Nat → Nat
  | 0 => 0
  | k + 1 => tot row k + ((row k).length + 24)

variable {row : Nat → List Int}
theorem offs_zero : offs row 0 = 0 := rfl
theorem offs_succ (k : Nat) : offs row (k + 1) = offs row k + (row k).length + 1 := by
  simp [offs, bts]; omega
theorem offs_tot : ∀ k, offs row k + 23 * k = tot row k
  | 0 => rfl
  | k + 1 => by rw [offs_succ, tot, ← offs_tot k]; omega
theorem tot_mono {k l : Nat} (h : k ≤ l) : tot row k ≤ tot row l := by
  induction l with
  | zero => have : k = 0 := by omega
            subst this; exact Nat.le_refl _
  | succ l ih =>
    rcases Nat.lt_or_ge k (l + 1) with h' | h'
    · exact Nat.le_trans (ih (by omega)) (by rw [tot]; omega)
    · have : k = l + 1 := by omega
      subst this; exact Nat.le_refl _
theorem offs_mono {k l : Nat} (h : k ≤ l) : offs row k ≤ offs row l := by
  induction l with
  | zero => have : k = 0 := by omega
            subst this; exact Nat.le_refl _
  | succ l ih =>
    rcases Nat.lt_or_ge k (l + 1) with h' | h'
    · exact Nat.le_trans (ih (by omega)) (by rw [offs_succ]; omega)
    · have : k = l + 1 := by omega
      subst this; exact Nat.le_refl _
/-- Line k lies whole within what waits. -/
theorem bts_split {k L : Nat} (h : k < L) : ∃ rest, bts row L = bts row k ++ (row k ++ [10]) ++ rest := by
  induction L with
  | zero => omega
  | succ L ih =>
    rcases Nat.lt_or_ge k L with h' | h'
    · obtain ⟨rest, e⟩ := ih h'
      exact ⟨rest ++ (row L ++ [10]), by rw [bts, e]; simp⟩
    · obtain rfl : k = L := by omega
      exact ⟨[], by rw [bts]; simp⟩
theorem at_line {k L i : Nat} (h : k < L) (h1 : offs row k ≤ i) (h2 : i < offs row k + (row k).length) : (bts row L).getD i 0 = (row k).getD (i - offs row k) 0 := by
  obtain ⟨rest, e⟩ := bts_split (row := row) h
  rw [e, List.append_assoc, List.append_assoc]
  simp only [List.getD_eq_getElem?_getD]
  rw [List.getElem?_append_right (by simpa [offs] using h1), List.getElem?_append_left (by simp only [offs] at *; omega)]
  rfl
theorem at_end {k L : Nat} (h : k < L) : (bts row L).getD (offs row k + (row k).length) 0 = 10 := by
  obtain ⟨rest, e⟩ := bts_split (row := row) h
  rw [e, List.append_assoc, List.append_assoc]
  simp only [List.getD_eq_getElem?_getD]
  rw [List.getElem?_append_right (by simp [offs])]
  have : offs row k + (row k).length - (bts row k).length = (row k).length := by simp [offs]
  rw [this, List.getElem?_append_right (Nat.le_refl _)]
  simp
theorem no_nl {l : List Int} (h : cntNL l = 0) {j : Nat} (hj : j < l.length) : (l.getD j 0 == 10) = false := by
  unfold cntNL at h
  have h' := List.filter_eq_nil_iff.1 (List.length_eq_zero_iff.1 h)
  have := h' l[j] (List.getElem_mem hj)
  simp only [List.getD_eq_getElem?_getD, List.getElem?_eq_getElem hj, Option.getD_some]
  simpa using this
/-- Where the walk over what waits stands: line k, from its begin; i inside it or at its newline; behind the last line at the end. -/
def Here (row : Nat → List Int) (L k i : Nat) : Prop := k ≤ L ∧ offs row k ≤ i ∧ (k < L → i ≤ offs row k + (row k).length) ∧ (k = L → i = offs row L)
theorem here_start (L : Nat) : Here row L 0 0 := ⟨Nat.zero_le _, Nat.le_refl _, fun _ => Nat.zero_le _, fun h => by subst h; rfl⟩
theorem here_lt {L k i : Nat} (h : Here row L k i) (hi : i < offs row L) : k < L := by
  rcases Nat.lt_or_ge k L with h' | h'
  · exact h'
  · have e : k = L := by have := h.1; omega
    have := h.2.2.2 e
    omega
theorem here_in {L k i : Nat} (h : Here row L k i) (hk : k < L) (hi : i < offs row k + (row k).length) : Here row L k (i + 1) :=
  ⟨h.1, by have := h.2.1; omega, fun _ => hi, fun e => by omega⟩
theorem here_nl {L k : Nat} (hk : k < L) : Here row L (k + 1) (offs row k + (row k).length + 1) := by
  have e : offs row (k + 1) = offs row k + (row k).length + 1 := offs_succ k
  refine ⟨hk, by omega, fun _ => by omega, fun h => ?_⟩
  rw [← h, e]
theorem here_stop {L k i : Nat} (h : Here row L k i) (hi : i ≤ offs row L) (hge : offs row L ≤ i) : k = L := by
  rcases Nat.lt_or_ge k L with h' | h'
  · have := h.2.2.1 h'
    have e : offs row (k + 1) = offs row k + (row k).length + 1 := offs_succ k
    have := offs_mono (row := row) (show k + 1 ≤ L from h')
    omega
  · have := h.1; omega
end Go.Proofs.Qxb6618560a.Plain
