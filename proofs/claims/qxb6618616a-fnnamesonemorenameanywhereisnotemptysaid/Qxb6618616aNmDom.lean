/-
  THE WALK of sqb1Domains: nil where the first list is nil; else a new list of as many domains, each of three strings.
-/
import Derived.Test.Qxb6618616aNmPutD
import Derived.BigRegion
namespace Go.Proofs.Qxb6618616a.nm
open Go.RowKit

def DomOwn (W wr : World) (n : Nat) : Prop := Below W.heap.size W wr ∧ ∃ cur, wr.heap[W.heap.size]? = some (.cells cur 38 (0, 0)) ∧ cur.size = n * 3 ∧ ∀ j, j < n * 3 → ∃ s : ByteArray, cur[j]? = some (.string s)
theorem DomOwn.cell {W wr : World} {n j : Nat} (h : DomOwn W wr n) (hj : j < n * 3) : ∃ s : ByteArray, wr.cell? ⟨W.heap.size, j, none⟩ = some (.string s) := by
  obtain ⟨_, cur, hc, _, hs⟩ := h
  obtain ⟨s, e⟩ := hs j hj
  exact ⟨s, by simp [World.cell?, hc, e]⟩
theorem DomOwn.free {W wr : World} {n : Nat} (h : DomOwn W wr n) (j : Nat) : wr.frozen? ⟨W.heap.size, j, none⟩ = false := by
  obtain ⟨_, cur, hc, _⟩ := h
  simp [World.frozen?, hc]
theorem heap_setCell_same {w : World} {b o : Nat} {cs : Array Value} {t : TypeId} {fz : Nat × Nat} (u : Value) (h : w.heap[b]? = some (.cells cs t fz)) : (w.setCell ⟨b, o, none⟩ u).heap[b]? = some (.cells (cs.setIfInBounds o u) t fz) := by
  have hlt := lt_of_block h
  have h' : w.heap[b] = .cells cs t fz := by simpa [Array.getElem?_eq_getElem hlt] using h
  show (w.heap.modify b _)[b]? = _
  rw [Array.getElem?_eq_getElem (by simpa using hlt), Array.getElem_modify_self, h']
  rfl
theorem DomOwn.set {W wr : World} {n : Nat} (h : DomOwn W wr n) (o : Nat) (s : ByteArray) : DomOwn W (wr.setCell ⟨W.heap.size, o, none⟩ (.string s)) n := by
  obtain ⟨hb, cur, hc, hz, hs⟩ := h
  refine ⟨hb.setCell (Nat.le_refl _) _, _, heap_setCell_same _ hc, by simpa using hz, fun j hj => ?_⟩
  rw [Array.getElem?_setIfInBounds]
  split
  · split
    · exact ⟨s, rfl⟩
    · omega
  · exact hs j hj
theorem DomOwn.drew {W wr : World} {n : Nat} (h : DomOwn W wr n) : DomOwn W wr.drew n := ⟨h.1.drew, h.2⟩
theorem DomOwn.made {W wr : World} {n : Nat} (hg : W.grownBy wr none) (ho : wr.ownsRow W.heap.size 38 3 (.slice (some ⟨W.heap.size, 0, none⟩) n n) n (madeCells #[.string ⟨#[]⟩, .string ⟨#[]⟩, .string ⟨#[]⟩] (n * 3)).toList) : DomOwn W wr n := by
  refine ⟨(Below.refl _ _).grown hg (Nat.le_refl _) (fun k e => by cases e), ?_⟩
  obtain ⟨_, ⟨h, _⟩ | ⟨g, cap, cur, hv, _, hh, _, _, hsz, ht⟩⟩ := ho
  · cases h
  · cases hv
    refine ⟨cur, hh, hsz, fun j hj => ?_⟩
    have h1 : cur.toList.take (n * 3) = cur.toList := List.take_of_length_le (by simp; omega)
    rw [h1] at ht
    rw [← Array.getElem?_toList, ht, Array.getElem?_toList]
    refine ⟨⟨#[]⟩, ?_⟩
    have hm : j % 3 = 0 ∨ j % 3 = 1 ∨ j % 3 = 2 := by omega
    simp only [madeCells, Array.getElem?_map, Array.getElem?_range, hj, if_true, Option.map_some]
    rcases hm with h | h | h <;> simp [h]
theorem DomOwn.at {W wr : World} {n : Nat} (h : DomOwn W wr n) : DomsAt wr (some ⟨W.heap.size, 0, none⟩) n := fun j hj => by
  obtain ⟨s0, e0⟩ := h.cell (j := 0 + j * 3) (by omega)
  obtain ⟨s1, e1⟩ := h.cell (j := 0 + j * 3 + 1) (by omega)
  obtain ⟨s2, e2⟩ := h.cell (j := 0 + j * 3 + 2) (by omega)
  exact ⟨_, _, rfl, s0, s1, s2, e0, e1, e2⟩

/-- What sqb1Domains answers. -/
def DomAns (W : World) (n : Nat) (e : Ending) (w' : World) : Prop := ∃ ao cap, e = .returned (.slice ao n cap) ∧ Below W.heap.size W w' ∧ DomsAt w' ao n

set_option maxHeartbeats 400000 in
theorem dom15_nil (a2 a3 : Option Addr) (n2 n3 c2 c3 : Nat) (w : World) :
    Calls Try.prog 15 #[.slice none 0 0, .slice a2 n2 c2, .slice a3 n3 c3] w fun e w' => DomAns w 0 e w' := by
  have hq := fun ww => Lib.run_eql_slice_nil (P := Try.prog) ww 25 9 none 0 0 0 0 Try.underlying25
  go_enter Try.func15, Try.ntmps15
  go_wp2_with fail
  go_ret
  exact ⟨none, 0, rfl, Below.refl _ _, fun j hj => by omega⟩

set_option maxHeartbeats 1000000 in
theorem dom15_some (a : Addr) (a2 a3 : Option Addr) (n c c2 c3 : Nat) (w : World) (s1 : StrsAt w (some a) n) (s2 : StrsAt w a2 n) (s3 : StrsAt w a3 n) (hn : n ≤ 65536) :
    Calls Try.prog 15 #[.slice (some a) n c, .slice a2 n c2, .slice a3 n c3] w fun e w' => DomAns w n e w' := by
  have S1 : Hid (StrsAt w (some a) n) := s1
  have S2 : Hid (StrsAt w a2 n) := s2
  have S3 : Hid (StrsAt w a3 n) := s3
  clear s1 s2 s3
  have hq := fun ww => Lib.run_eql_slice_nil (P := Try.prog) ww 25 9 (some a) n c 0 0 Try.underlying25
  obtain ⟨i0, hi, hz0, hz1, hz2⟩ := info_parts info38
  go_enter Try.func15, Try.ntmps15
  go_wp2_with (at_make; refine wpList_make_full _ rfl _ _ 35 rfl w.heap.size 38 i0 (.agg #[.string ⟨#[]⟩, .string ⟨#[]⟩, .string ⟨#[]⟩]) 3 Try.underlying35 hi hz0 hz1 .i64 .i64 _ _ n rfl rfl rfl rfl (by rw [hz2]; omega) (by unfold maxLen; omega) (Nat.le_refl _) ?_)
  intro w0 hown0 hgrow0
  have HD0 : Hid (DomOwn w w0 n) := DomOwn.made hgrow0 hown0
  clear hown0 hgrow0 hq
  go_wp2_with fail
  go_loopw [8] (fun i wr => ∃ k : Nat, k ≤ n ∧ i = .int .i64 k ∧ Hid (DomOwn w wr n)) (fun i _ => n - (intOf i).toNat)
  case atStart => exact ⟨0, Nat.zero_le _, rfl, HD0⟩
  case round =>
    obtain ⟨k, hk, rfl, hd⟩ := hrel
    by_cases hlt : k < n
    · obtain ⟨b1, o1, e1, s1, f1⟩ := S1.out k hlt
      obtain ⟨b2, o2, rfl, s2, f2⟩ := S2.out k hlt
      obtain ⟨b3, o3, rfl, s3, f3⟩ := S3.out k hlt
      have g1 := later_cell hd.out.1 f1
      have g2 := later_cell hd.out.1 f2
      have g3 := later_cell hd.out.1 f3
      cases e1
      obtain ⟨t0, d0⟩ := hd.out.cell (j := k * 3) (by omega)
      obtain ⟨t1, d1⟩ := hd.out.cell (j := k * 3 + 1) (by omega)
      obtain ⟨t2, d2⟩ := hd.out.cell (j := k * 3 + 2) (by omega)
      have z0 := hd.out.free (k * 3)
      have z1 := hd.out.free (k * 3 + 1)
      have z2 := hd.out.free (k * 3 + 2)
      have hkn : (k : Int) < (n : Int) := by omega
      clear f1 f2 f3
      go_wp2_with fail
      go_region
      all_goals go_wp2_with fail
      go_roundw
      case rel => exact ⟨k + 1, by omega, by go_num, (((hd.out.set _ _).set _ _).set _ _).drew⟩
      case measure => simp [intOf]; omega
    · go_wp2_with fail
      go_ret
      exact ⟨_, _, rfl, hd.out.1, hd.out.at⟩
end Go.Proofs.Qxb6618616a.nm
