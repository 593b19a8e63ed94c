/-
  THE WALK of sqb1PutDomain: a list of one domain more, in new memory; nothing old has turned.
-/
import Derived.Test.Qxb6618616aNmPut
namespace Go.Proofs.Qxb6618616a.nm
open Go.RowKit

/-- A []TypeName of length n that lies in w: where there is an element its three cells hold strings. -/
def DomsAt (w : World) (ao : Option Addr) (n : Nat) : Prop := ∀ j, j < n → ∃ b off, ao = some ⟨b, off, none⟩ ∧ ∃ s0 s1 s2 : ByteArray, w.cell? ⟨b, off + j * 3, none⟩ = some (.string s0) ∧ w.cell? ⟨b, off + j * 3 + 1, none⟩ = some (.string s1) ∧ w.cell? ⟨b, off + j * 3 + 2, none⟩ = some (.string s2)

theorem three_str (w : World) (s0 s1 s2 : ByteArray) (o : Nat) : ∀ j u, ([Value.string s0, .string s1, .string s2] : List Value)[j]? = some u → (w.alloc (.cells #[.string s0, .string s1, .string s2] o)).cell? ((⟨w.heap.size, 0, none⟩ : Addr).add j) = some u := by
  intro j u hj
  match j, hj with
  | 0, hj => simp at hj; subst hj; simp [Addr.add]
  | 1, hj => simp at hj; subst hj; simp [Addr.add]
  | 2, hj => simp at hj; subst hj; simp [Addr.add]
theorem info38 : (Try.prog.info? 38).map (fun i => (i.zero, i.size, i.bytes)) = some (some (.agg #[.string ⟨#[]⟩, .string ⟨#[]⟩, .string ⟨#[]⟩]), 3, 48) := by kernel_rfl

/-- v owns m domains in blocks that are new since W and its first new block, which holds what is put in. -/
def OwnD (W wr : World) (o : Obj) (v : Value) (m : Nat) : Prop := Below W.heap.size W wr ∧ wr.heap[W.heap.size]? = some o ∧ ∃ xs, wr.ownsRow (W.heap.size + 1) 38 3 v m xs
theorem OwnD.step {W wr w1 : World} {o : Obj} {v v' : Value} {m k : Nat} {xs xs' : List Value} (hb : Below W.heap.size W wr) (hx : wr.heap[W.heap.size]? = some o) (ho : wr.ownsRow (W.heap.size + 1) 38 3 v m xs) (o' : Obj) (h1 : w1.ownsRow (W.heap.size + 1) 38 3 v' k xs') (hg : (wr.alloc o').grownBy w1 v.ownBlock) : OwnD W w1 o v' k := by
  have hlt := lt_of_block hx
  refine ⟨(hb.alloc hb.size o').grown hg (by have := hb.size; simp; omega) (fun g e => by have := (ho.lt g e).1; omega), ?_, _, h1⟩
  rw [hg.block W.heap.size (by simp; omega) (fun e => by have := (ho.lt _ e.symm).1; omega), Below.heap_alloc _ _ _ hlt]
  exact hx
theorem cell_of_three {w : World} {b : Nat} {x0 x1 x2 : Value} {t : TypeId} (h : w.heap[b]? = some (.cells #[x0, x1, x2] t (0, 0))) : w.cell? ⟨b, 0, none⟩ = some x0 ∧ w.cell? ⟨b, 1, none⟩ = some x1 ∧ w.cell? ⟨b, 2, none⟩ = some x2 := by
  simp [World.cell?, h]

set_option maxHeartbeats 1000000 in
theorem putD_front (ao : Option Addr) (n c : Nat) (x0 x1 x2 : ByteArray) (w : World) (hs : DomsAt w ao n) (hn : n ≤ 65536) :
    Calls Try.prog 17 #[.slice ao n c, .agg #[.string x0, .string x1, .string x2], .bool true] w fun e w' => ListAns w (n + 1) e w' := by
  have HS : Hid (DomsAt w ao n) := hs
  clear hs
  obtain ⟨i0, hi, hz0, hz1, hz2⟩ := info_parts info38
  go_enter Try.func17, Try.ntmps17
  go_wp2_with (at_make; refine wpList_make_own _ rfl _ _ 35 rfl (w.heap.size + 1) 38 i0 (.agg #[.string ⟨#[]⟩, .string ⟨#[]⟩, .string ⟨#[]⟩]) 3 Try.underlying35 hi hz0 hz1 .i64 .i64 _ (n + 1) rfl rfl (by omega) (by rw [hz2]; omega) (by unfold maxLen; omega) ?hbase ?_)
  case hbase => simp
  intro w0 hown0 hgrow0
  have HX : Hid (w0.heap[w.heap.size]? = some (.cells #[.string x0, .string x1, .string x2] 38 (0, 0))) := by
    have h := hgrow0.block w.heap.size (by simp) (by simp)
    exact h.trans (heap_alloc_new w _)
  have HB0 : Hid (Below w.heap.size w w0) := ((Below.refl _ _).alloc (Nat.le_refl _) _).grown hgrow0 (by simp) (fun k e => by cases e)
  have HO0 : Hid (w0.ownsRow (w.heap.size + 1) 38 3 (.slice (some ⟨w.heap.size + 1, 0, none⟩) 0 (n + 1)) 0 []) := hown0
  clear hown0 hgrow0
  obtain ⟨q0, q1, q2⟩ := cell_of_three HX.out
  go_wp2_with (at_builtin; refine wpList_append_own _ rfl (.tmp 14) (.tmp 16) 35 rfl (w.heap.size + 1) 38 i0 (.agg #[.string ⟨#[]⟩, .string ⟨#[]⟩, .string ⟨#[]⟩]) 3 48 Try.underlying35 hi hz0 hz1 hz2 rfl (by decide) (.slice (some ⟨w.heap.size + 1, 0, none⟩) 0 (n + 1)) (0) [] rfl (World.ownsRow.alloc HO0.out _) ⟨w0.heap.size, 0, none⟩ 1 1 [.string x0, .string x1, .string x2] rfl rfl (three_str w0 x0 x1 x2 38) ?h1f ?h2f ?h3f ?h4f ?_)
  case h1f => intro u hu; simp at hu; rcases hu with h | h | h <;> subst h <;> rfl
  case h2f => unfold maxLen; omega
  case h3f => omega
  case h4f => have := lt_of_block HX.out; simp; omega
  intro v1 w1 hown1 hgrow1 _
  have HR1 : Hid (OwnD w w1 (.cells #[.string x0, .string x1, .string x2] 38 (0, 0)) v1 (0 + 1)) := OwnD.step HB0.out HX.out HO0.out _ hown1 hgrow1
  clear hown1 hgrow1 q0 q1 q2
  go_wp2_with fail
  go_loopw [7, 8] (fun v i wr => ∃ k : Nat, k ≤ n ∧ i = .int .i64 k ∧ Hid (OwnD w wr (.cells #[.string x0, .string x1, .string x2] 38 (0, 0)) v (k + 1))) (fun _ i _ => n - (intOf i).toNat)
  case atStart => exact ⟨0, Nat.zero_le _, rfl, HR1⟩
  case round =>
    obtain ⟨k, hk, rfl, hown⟩ := hrel
    obtain ⟨hbr, hxr, xs, hor⟩ := hown.out
    have HB : Hid (Below w.heap.size w wr) := hbr
    have HXr : Hid (wr.heap[w.heap.size]? = some (.cells #[.string x0, .string x1, .string x2] 38 (0, 0))) := hxr
    have HO : Hid (wr.ownsRow (w.heap.size + 1) 38 3 u7 (k + 1) xs) := hor
    clear hown hbr hor hxr
    by_cases hlt : k < n
    · obtain ⟨b, off, rfl, s0, s1, s2, e0, e1, e2⟩ := HS.out k hlt
      have g0 := later_cell HB.out e0
      have g1 := later_cell HB.out e1
      have g2 := later_cell HB.out e2
      clear e0 e1 e2
      go_wp2_with (at_builtin; refine wpList_append_own _ rfl (.tmp 24) (.tmp 29) 35 rfl (w.heap.size + 1) 38 i0 (.agg #[.string ⟨#[]⟩, .string ⟨#[]⟩, .string ⟨#[]⟩]) 3 48 Try.underlying35 hi hz0 hz1 hz2 rfl (by decide) u7 (k + 1) xs rfl (World.ownsRow.alloc HO.out _) ⟨wr.heap.size, 0, none⟩ 1 1 [.string s0, .string s1, .string s2] rfl rfl (three_str wr s0 s1 s2 38) ?h1r ?h2r ?h3r ?h4r ?_)
      case h1r => intro u hu; simp at hu; rcases hu with h | h | h <;> subst h <;> rfl
      case h2r => unfold maxLen; omega
      case h3r => omega
      case h4r => have := lt_of_block HXr.out; simp; omega
      intro v1 w1 hown1 hgrow1 _
      have HR : Hid (OwnD w w1 (.cells #[.string x0, .string x1, .string x2] 38 (0, 0)) v1 (k + 1 + 1)) := OwnD.step HB.out HXr.out HO.out _ hown1 hgrow1
      clear hown1 hgrow1
      go_wp2_with fail
      go_roundw
      case rel => exact ⟨k + 1, by omega, by go_num, by rw [show k + 1 + 1 = k + 1 + 1 from by omega]; exact HR⟩
      case measure => simp [intOf]; omega
    · obtain rfl : n = k := by omega
      obtain ⟨a', cp', hv⟩ := own_shape HO.out
      go_wp2_with fail
      go_ret
      exact ⟨a', cp', ret_val hv, HB.out⟩

set_option maxHeartbeats 1000000 in
theorem putD_back (ao : Option Addr) (n c : Nat) (x0 x1 x2 : ByteArray) (w : World) (hs : DomsAt w ao n) (hn : n ≤ 65536) :
    Calls Try.prog 17 #[.slice ao n c, .agg #[.string x0, .string x1, .string x2], .bool false] w fun e w' => ListAns w (n + 1) e w' := by
  have HS : Hid (DomsAt w ao n) := hs
  clear hs
  obtain ⟨i0, hi, hz0, hz1, hz2⟩ := info_parts info38
  go_enter Try.func17, Try.ntmps17
  go_wp2_with (at_make; refine wpList_make_own _ rfl _ _ 35 rfl (w.heap.size + 1) 38 i0 (.agg #[.string ⟨#[]⟩, .string ⟨#[]⟩, .string ⟨#[]⟩]) 3 Try.underlying35 hi hz0 hz1 .i64 .i64 _ (n + 1) rfl rfl (by omega) (by rw [hz2]; omega) (by unfold maxLen; omega) ?hbase ?_)
  case hbase => simp
  intro w0 hown0 hgrow0
  have HX : Hid (w0.heap[w.heap.size]? = some (.cells #[.string x0, .string x1, .string x2] 38 (0, 0))) := by
    have h := hgrow0.block w.heap.size (by simp) (by simp)
    exact h.trans (heap_alloc_new w _)
  have HB0 : Hid (Below w.heap.size w w0) := ((Below.refl _ _).alloc (Nat.le_refl _) _).grown hgrow0 (by simp) (fun k e => by cases e)
  have HO0 : Hid (w0.ownsRow (w.heap.size + 1) 38 3 (.slice (some ⟨w.heap.size + 1, 0, none⟩) 0 (n + 1)) 0 []) := hown0
  clear hown0 hgrow0
  have HR1 : Hid (OwnD w w0 (.cells #[.string x0, .string x1, .string x2] 38 (0, 0)) (.slice (some ⟨w.heap.size + 1, 0, none⟩) 0 (n + 1)) 0) := ⟨HB0.out, HX.out, _, HO0.out⟩
  go_wp2_with fail
  go_loopw [7, 8] (fun v i wr => ∃ k : Nat, k ≤ n ∧ i = .int .i64 k ∧ Hid (OwnD w wr (.cells #[.string x0, .string x1, .string x2] 38 (0, 0)) v (k + 0))) (fun _ i _ => n - (intOf i).toNat)
  case atStart => exact ⟨0, Nat.zero_le _, rfl, HR1⟩
  case round =>
    obtain ⟨k, hk, rfl, hown⟩ := hrel
    obtain ⟨hbr, hxr, xs, hor⟩ := hown.out
    have HB : Hid (Below w.heap.size w wr) := hbr
    have HXr : Hid (wr.heap[w.heap.size]? = some (.cells #[.string x0, .string x1, .string x2] 38 (0, 0))) := hxr
    have HO : Hid (wr.ownsRow (w.heap.size + 1) 38 3 u7 (k + 0) xs) := hor
    clear hown hbr hor hxr
    by_cases hlt : k < n
    · obtain ⟨b, off, rfl, s0, s1, s2, e0, e1, e2⟩ := HS.out k hlt
      have g0 := later_cell HB.out e0
      have g1 := later_cell HB.out e1
      have g2 := later_cell HB.out e2
      clear e0 e1 e2
      go_wp2_with (at_builtin; refine wpList_append_own _ rfl (.tmp 24) (.tmp 29) 35 rfl (w.heap.size + 1) 38 i0 (.agg #[.string ⟨#[]⟩, .string ⟨#[]⟩, .string ⟨#[]⟩]) 3 48 Try.underlying35 hi hz0 hz1 hz2 rfl (by decide) u7 (k + 0) xs rfl (World.ownsRow.alloc HO.out _) ⟨wr.heap.size, 0, none⟩ 1 1 [.string s0, .string s1, .string s2] rfl rfl (three_str wr s0 s1 s2 38) ?h1r ?h2r ?h3r ?h4r ?_)
      case h1r => intro u hu; simp at hu; rcases hu with h | h | h <;> subst h <;> rfl
      case h2r => unfold maxLen; omega
      case h3r => omega
      case h4r => have := lt_of_block HXr.out; simp; omega
      intro v1 w1 hown1 hgrow1 _
      have HR : Hid (OwnD w w1 (.cells #[.string x0, .string x1, .string x2] 38 (0, 0)) v1 (k + 0 + 1)) := OwnD.step HB.out HXr.out HO.out _ hown1 hgrow1
      clear hown1 hgrow1
      go_wp2_with fail
      go_roundw
      case rel => exact ⟨k + 1, by omega, by go_num, by rw [show k + 1 + 0 = k + 0 + 1 from by omega]; exact HR⟩
      case measure => simp [intOf]; omega
    · obtain rfl : n = k := by omega
      obtain ⟨q0, q1, q2⟩ := cell_of_three HXr.out
      go_wp2_with (at_builtin; refine wpList_append_own _ rfl (.tmp 33) (.tmp 35) 35 rfl (w.heap.size + 1) 38 i0 (.agg #[.string ⟨#[]⟩, .string ⟨#[]⟩, .string ⟨#[]⟩]) 3 48 Try.underlying35 hi hz0 hz1 hz2 rfl (by decide) u7 (n + 0) xs rfl (World.ownsRow.alloc HO.out _) ⟨wr.heap.size, 0, none⟩ 1 1 [.string x0, .string x1, .string x2] rfl rfl (three_str wr x0 x1 x2 38) ?h1e ?h2e ?h3e ?h4e ?_)
      case h1e => intro u hu; simp at hu; rcases hu with h | h | h <;> subst h <;> rfl
      case h2e => unfold maxLen; omega
      case h3e => omega
      case h4e => have := lt_of_block HXr.out; simp; omega
      intro v1 w1 hown1 hgrow1 _
      have HR : Hid (OwnD w w1 (.cells #[.string x0, .string x1, .string x2] 38 (0, 0)) v1 (n + 0 + 1)) := OwnD.step HB.out HXr.out HO.out _ hown1 hgrow1
      obtain ⟨a', cp', hv⟩ := own_shape hown1
      clear hown1 hgrow1 q0 q1 q2
      go_wp2_with fail
      go_ret
      exact ⟨a', cp', ret_val hv, HR.out.1⟩
end Go.Proofs.Qxb6618616a.nm
