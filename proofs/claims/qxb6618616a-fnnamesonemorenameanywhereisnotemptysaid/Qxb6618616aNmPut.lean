/-
  THE WALKS that make new lists: sqb1Put: a list of one element more, in new memory; nothing old has turned.
-/
import Derived.Test.Qxb6618616aNmBytes
namespace Go.Proofs.Qxb6618616a.nm
open Go.RowKit

theorem later_cell {W w : World} {a : Addr} {u : Value} (hb : Below W.heap.size W w) (h : W.cell? a = some u) : w.cell? a = some u := by
  have hlt : a.block < W.heap.size := by
    rcases Nat.lt_or_ge a.block W.heap.size with h' | h'
    · exact h'
    · simp [World.cell?, Array.getElem?_eq_none h'] at h
  exact (hb.cell hlt).trans h

/-- v owns m elements (of type e, 'size' cells each) in blocks that are new since W; nothing that lay in W has turned. -/
def OwnAny (W wr : World) (e size : Nat) (v : Value) (m : Nat) : Prop := Below W.heap.size W wr ∧ ∃ xs, wr.ownsRow W.heap.size e size v m xs
theorem OwnAny.step {W wr w1 : World} {e size : Nat} {v v' : Value} {m k : Nat} {xs xs' : List Value} (hb : Below W.heap.size W wr) (ho : wr.ownsRow W.heap.size e size v m xs) (o : Obj) (h1 : w1.ownsRow W.heap.size e size v' k xs') (hg : (wr.alloc o).grownBy w1 v.ownBlock) : OwnAny W w1 e size v' k := by
  refine ⟨(hb.alloc hb.size o).grown hg (by have := hb.size; simp; omega) (fun g e => (ho.lt g e).1), _, h1⟩
theorem own_shape {w : World} {base e size : Nat} {v : Value} {n : Nat} {xs : List Value} (h : w.ownsRow base e size v n xs) : ∃ ao cap, v = .slice ao n cap := by
  obtain ⟨_, ⟨rfl, rfl⟩ | ⟨g, cap, cur, rfl, _⟩⟩ := h
  · exact ⟨_, _, rfl⟩
  · exact ⟨_, _, rfl⟩
theorem one_str (w : World) (s : ByteArray) (o : Nat) : ∀ j u, ([Value.string s] : List Value)[j]? = some u → (w.alloc (.cells #[.string s] o)).cell? ((⟨w.heap.size, 0, none⟩ : Addr).add j) = some u := by
  intro j u hj
  match j, hj with
  | 0, hj => simp at hj; subst hj; simp [Addr.add]
theorem info9 : (Try.prog.info? 9).map (fun i => (i.zero, i.size, i.bytes)) = some (some (.string ⟨#[]⟩), 1, 16) := by kernel_rfl

theorem ret_val {a b : Value} (h : a = b) : Ending.returned a = .returned b := by rw [h]
/-- What a 'put' answers: a list of k elements. -/
def ListAns (W : World) (k : Nat) (e : Ending) (w' : World) : Prop := ∃ ao cap, e = .returned (.slice ao k cap) ∧ Below W.heap.size W w'

set_option maxHeartbeats 1000000 in
theorem put16_front (ao : Option Addr) (n c : Nat) (x : ByteArray) (w : World) (hs : StrsAt w ao n) (hn : n ≤ 65536) :
    Calls Try.prog 16 #[.slice ao n c, .string x, .bool true] w fun e w' => ListAns w (n + 1) e w' := by
  have HS : Hid (StrsAt w ao n) := hs
  clear hs
  obtain ⟨i0, hi, hz0, hz1, hz2⟩ := info_parts info9
  go_enter Try.func16, Try.ntmps16
  go_wp2_with (first | (at_make; refine wpList_make_own _ rfl _ _ 25 rfl w.heap.size 9 i0 (.string ⟨#[]⟩) 1 Try.underlying25 hi hz0 hz1 .i64 .i64 _ (n + 1) rfl rfl (by omega) (by rw [hz2]; omega) (by unfold maxLen; omega) (Nat.le_refl _) ?_; intro w0 hown0 hgrow0; have HB0 : Hid (Below w.heap.size w w0) := (Below.refl _ _).grown hgrow0 (Nat.le_refl _) (fun k e => by cases e); have HO0 : Hid (w0.ownsRow w.heap.size 9 1 (.slice (some ⟨w.heap.size, 0, none⟩) 0 (n + 1)) 0 []) := hown0; clear hown0 hgrow0) | (at_builtin; refine wpList_append_own _ rfl (.tmp 14) (.tmp 16) 25 rfl w.heap.size 9 i0 (.string ⟨#[]⟩) 1 16 Try.underlying25 hi hz0 hz1 hz2 rfl (by decide) (.slice (some ⟨w.heap.size, 0, none⟩) 0 (n + 1)) 0 [] rfl (World.ownsRow.alloc HO0.out _) ⟨w0.heap.size, 0, none⟩ 1 1 [.string x] rfl rfl (one_str w0 x 9) ?h1 ?h2 ?h3 ?h4 ?_))
  case h1 => intro u hu; simp at hu; subst hu; rfl
  case h2 => unfold maxLen; omega
  case h3 => omega
  case h4 => have := HB0.out.size; simp; omega
  intro v1 w1 hown1 hgrow1 _
  have HR1 : Hid (OwnAny w w1 9 1 v1 1) := OwnAny.step HB0.out HO0.out _ hown1 hgrow1
  clear hown1 hgrow1
  go_wp2_with fail
  go_loopw [7, 8] (fun v i wr => ∃ k : Nat, k ≤ n ∧ i = .int .i64 k ∧ Hid (OwnAny w wr 9 1 v (k + 1))) (fun _ i _ => n - (intOf i).toNat)
  case atStart => exact ⟨0, Nat.zero_le _, rfl, HR1⟩
  case round =>
    obtain ⟨k, hk, rfl, hown⟩ := hrel
    obtain ⟨hbr, xs, hor⟩ := hown.out
    have HB : Hid (Below w.heap.size w wr) := hbr
    have HO : Hid (wr.ownsRow w.heap.size 9 1 u7 (k + 1) xs) := hor
    clear hown hbr hor
    by_cases hlt : k < n
    · obtain ⟨b, off, rfl, s, g0⟩ := HS.out k hlt
      have g1 := later_cell HB.out g0
      clear g0
      go_wp2_with (at_builtin; refine wpList_append_own _ rfl (.tmp 24) (.tmp 29) 25 rfl w.heap.size 9 i0 (.string ⟨#[]⟩) 1 16 Try.underlying25 hi hz0 hz1 hz2 rfl (by decide) u7 (k + 1) xs rfl (World.ownsRow.alloc HO.out _) ⟨wr.heap.size, 0, none⟩ 1 1 [.string s] rfl rfl (one_str wr s 9) ?h1r ?h2r ?h3r ?h4r ?_)
      case h1r => intro u hu; simp at hu; subst hu; rfl
      case h2r => unfold maxLen; omega
      case h3r => omega
      case h4r => have := HB.out.size; simp; omega
      intro v1 w1 hown1 hgrow1 _
      have HR : Hid (OwnAny w w1 9 1 v1 (k + 1 + 1)) := OwnAny.step HB.out HO.out _ hown1 hgrow1
      clear hown1 hgrow1
      go_wp2_with fail
      go_roundw
      case rel => exact ⟨k + 1, by omega, by go_num, by rw [show k + 1 + 1 = k + 1 + 1 from by omega]; exact HR⟩
      case measure => simp [intOf]; omega
    · obtain rfl : n = k := by omega
      obtain ⟨a', cp', hv⟩ := own_shape HO.out
      go_wp2_with fail
      go_ret
      exact ⟨a', cp', ret_val hv, HB.out⟩

set_option maxHeartbeats 1000000 in
theorem put16_back (ao : Option Addr) (n c : Nat) (x : ByteArray) (w : World) (hs : StrsAt w ao n) (hn : n ≤ 65536) :
    Calls Try.prog 16 #[.slice ao n c, .string x, .bool false] w fun e w' => ListAns w (n + 1) e w' := by
  have HS : Hid (StrsAt w ao n) := hs
  clear hs
  obtain ⟨i0, hi, hz0, hz1, hz2⟩ := info_parts info9
  go_enter Try.func16, Try.ntmps16
  go_wp2_with (at_make; refine wpList_make_own _ rfl _ _ 25 rfl w.heap.size 9 i0 (.string ⟨#[]⟩) 1 Try.underlying25 hi hz0 hz1 .i64 .i64 _ (n + 1) rfl rfl (by omega) (by rw [hz2]; omega) (by unfold maxLen; omega) (Nat.le_refl _) ?_; intro w0 hown0 hgrow0; have HB0 : Hid (Below w.heap.size w w0) := (Below.refl _ _).grown hgrow0 (Nat.le_refl _) (fun k e => by cases e); have HO0 : Hid (w0.ownsRow w.heap.size 9 1 (.slice (some ⟨w.heap.size, 0, none⟩) 0 (n + 1)) 0 []) := hown0; clear hown0 hgrow0)
  have HR1 : Hid (OwnAny w w0 9 1 (.slice (some ⟨w.heap.size, 0, none⟩) 0 (n + 1)) 0) := ⟨HB0.out, _, HO0.out⟩
  go_loopw [7, 8] (fun v i wr => ∃ k : Nat, k ≤ n ∧ i = .int .i64 k ∧ Hid (OwnAny w wr 9 1 v (k + 0))) (fun _ i _ => n - (intOf i).toNat)
  case atStart => exact ⟨0, Nat.zero_le _, rfl, HR1⟩
  case round =>
    obtain ⟨k, hk, rfl, hown⟩ := hrel
    obtain ⟨hbr, xs, hor⟩ := hown.out
    have HB : Hid (Below w.heap.size w wr) := hbr
    have HO : Hid (wr.ownsRow w.heap.size 9 1 u7 (k + 0) xs) := hor
    clear hown hbr hor
    by_cases hlt : k < n
    · obtain ⟨b, off, rfl, s, g0⟩ := HS.out k hlt
      have g1 := later_cell HB.out g0
      clear g0
      go_wp2_with (at_builtin; refine wpList_append_own _ rfl (.tmp 24) (.tmp 29) 25 rfl w.heap.size 9 i0 (.string ⟨#[]⟩) 1 16 Try.underlying25 hi hz0 hz1 hz2 rfl (by decide) u7 (k + 0) xs rfl (World.ownsRow.alloc HO.out _) ⟨wr.heap.size, 0, none⟩ 1 1 [.string s] rfl rfl (one_str wr s 9) ?h1r ?h2r ?h3r ?h4r ?_)
      case h1r => intro u hu; simp at hu; subst hu; rfl
      case h2r => unfold maxLen; omega
      case h3r => omega
      case h4r => have := HB.out.size; simp; omega
      intro v1 w1 hown1 hgrow1 _
      have HR : Hid (OwnAny w w1 9 1 v1 (k + 0 + 1)) := OwnAny.step HB.out HO.out _ hown1 hgrow1
      clear hown1 hgrow1
      go_wp2_with fail
      go_roundw
      case rel => exact ⟨k + 1, by omega, by go_num, by rw [show k + 1 + 0 = k + 0 + 1 from by omega]; exact HR⟩
      case measure => simp [intOf]; omega
    · obtain rfl : n = k := by omega
      go_wp2_with (at_builtin; refine wpList_append_own _ rfl (.tmp 33) (.tmp 35) 25 rfl w.heap.size 9 i0 (.string ⟨#[]⟩) 1 16 Try.underlying25 hi hz0 hz1 hz2 rfl (by decide) u7 (n + 0) xs rfl (World.ownsRow.alloc HO.out _) ⟨wr.heap.size, 0, none⟩ 1 1 [.string x] rfl rfl (one_str wr x 9) ?h1e ?h2e ?h3e ?h4e ?_)
      case h1e => intro u hu; simp at hu; subst hu; rfl
      case h2e => unfold maxLen; omega
      case h3e => omega
      case h4e => have := HB.out.size; simp; omega
      intro v1 w1 hown1 hgrow1 _
      have HR : Hid (OwnAny w w1 9 1 v1 (n + 0 + 1)) := OwnAny.step HB.out HO.out _ hown1 hgrow1
      obtain ⟨a', cp', hv⟩ := own_shape hown1
      clear hown1 hgrow1
      go_wp2_with fail
      go_ret
      exact ⟨a', cp', ret_val hv, HR.out.1⟩
end Go.Proofs.Qxb6618616a.nm
