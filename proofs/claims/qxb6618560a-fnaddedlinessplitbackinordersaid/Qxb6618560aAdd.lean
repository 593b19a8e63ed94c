/-
  THE WALKS of ZZnewAddLog, (*Log).add, ZZadd: the Log as Qxb6618560aParts.lean has it; what is appended is told by the cells of the line.
-/
import Derived.Test.Qxb6618560aParts
import Derived.BigRegion
namespace Go.Proofs.Qxb6618560a
open Go.RowKit Go.Conc

set_option maxHeartbeats 400000 in
theorem new6 (st : Int) (w : World) :
    Calls Try.prog 6 #[.slice none 0 0, .int .i64 0, .int .u64 st, .int .u64 0, .bool false, .bool false] w fun e w' => ∃ lb base wk cd sp, e = .returned (.pointer (some ⟨lb, 0, none⟩)) ∧ LogPart w w' lb base wk cd sp (.slice none 0 0) 0 st := by
  have m1 := mk1
  have m0 := mk0
  go_enter Try.func6, Try.ntmps6
  go_wp2
  go_region
  all_goals go_wp2
  all_goals go_ret
  · refine ⟨w.heap.size + 1 + 1, w.heap.size + 4, w.heap.size, w.heap.size + 1 + 1 + 1, w.heap.size + 1, rfl, ?_⟩
    clear m1 m0
    refine ⟨((((Below.refl _ _).alloc (Nat.le_refl _) _).alloc (by simp) _).alloc (by simp; omega) _).alloc (by simp; omega) _ |>.drew, ?_, ?_, by omega, by omega, by omega, by simp⟩
    · show ((((w.heap.push _).push _).push _).push _)[w.heap.size + 1 + 1]? = _
      simp only [Array.getElem?_push, Array.size_push]
      rw [if_neg (by omega), if_pos trivial]
      rfl
    · show ((((w.heap.push _).push _).push _).push _)[w.heap.size]? = _
      simp only [Array.getElem?_push, Array.size_push]
      rw [if_neg (by omega), if_neg (by omega), if_neg (by omega), if_pos trivial]
  · refine ⟨w.heap.size + 1 + 1, w.heap.size + 4, w.heap.size + 1, w.heap.size + 1 + 1 + 1, w.heap.size, rfl, ?_⟩
    clear m1 m0
    refine ⟨((((Below.refl _ _).alloc (Nat.le_refl _) _).alloc (by simp) _).alloc (by simp; omega) _).alloc (by simp; omega) _ |>.drew, ?_, ?_, by omega, by omega, by omega, by simp⟩
    · show ((((w.heap.push _).push _).push _).push _)[w.heap.size + 1 + 1]? = _
      simp only [Array.getElem?_push, Array.size_push]
      rw [if_neg (by omega), if_pos trivial]
      rfl
    · show ((((w.heap.push _).push _).push _).push _)[w.heap.size + 1]? = _
      simp only [Array.getElem?_push, Array.size_push]
      rw [if_neg (by omega), if_neg (by omega), if_pos trivial]

theorem later_cell {W w : World} {a : Addr} {u : Value} (hb : Below W.heap.size W w) (h : W.cell? a = some u) : w.cell? a = some u := by
  have hlt : a.block < W.heap.size := by
    rcases Nat.lt_or_ge a.block W.heap.size with h' | h'
    · exact h'
    · simp [World.cell?, Array.getElem?_eq_none h'] at h
  exact (hb.cell hlt).trans h
theorem one_cell10 (w : World) (o : Nat) : ∀ j u, ([Value.int .u8 10] : List Value)[j]? = some u → (w.alloc (.cells #[.int .u8 10] o)).cell? ((⟨w.heap.size, 0, none⟩ : Addr).add j) = some u := by
  intro j u hj
  match j, hj with
  | 0, hj => simp at hj; subst hj; simp [Addr.add]

set_option maxHeartbeats 400000 in
theorem add11_some (W w : World) (lb base wk cd sp : Nat) (v : Value) (n : Nat) (xs : List Value) (k : Nat) (A : Int) (a : Addr) (m c : Nat) (news : List Value)
    (hp : LogPart W w lb base wk cd sp v k A) (hown : w.ownsRow base 5 1 v n xs) (hl : news.length = m * 1) (hnews : ∀ j u, news[j]? = some u → W.cell? (a.add j) = some u) (h1 : ∀ u ∈ news, u.oneCell' = true)
    (hsum : n + m ≤ 1048574) (hk : k ≤ 1048576) :
    Calls Try.prog 11 #[.pointer (some ⟨lb, 0, none⟩), .slice (some a) m c] w fun e w' =>
      e = .returned (.int .u64 (IntKind.u64.wrap (A + 1))) ∧ ∃ v', LogPart W w' lb base wk cd sp v' (k + 1) (IntKind.u64.wrap (A + 1)) ∧ w'.ownsRow base 5 1 v' (n + m + 1) (xs ++ (news ++ [.int .u8 10])) := by
  obtain ⟨ao, cap, rfl⟩ := own_shape hown
  obtain ⟨i0, hi, hz0, hz1, hz2⟩ := info_parts info5
  have c12 : w.cell? ⟨lb, 12, none⟩ = some (.bool false) := hp.cell 12
  have c7 : w.cell? ⟨lb, 7, none⟩ = some (.int .u64 A) := hp.cell 7
  have f7 := hp.free 7
  have c5 : w.cell? ⟨lb, 5, none⟩ = some (.slice ao n cap) := hp.cell 5
  have P1 : Hid _ := hp.setA (IntKind.u64.wrap (A + 1))
  have O1 : Hid _ := ownsRow_setCell_below hown (a := ⟨lb, 7, none⟩) hp.lbHi (.int .u64 (IntKind.u64.wrap (A + 1)))
  have R1 : Hid _ := own_row hown
  have HL : Hid _ := hl
  have HN : Hid _ := hnews
  have H1 : Hid _ := h1
  clear hl hnews h1 hown hp
  have HS : Hid _ := hsum
  have hn1 : n ≤ 1048574 := by omega
  have hm1 : m ≤ 1048574 := by omega
  have ht : decide ((67108864 : Int) ≤ (n : Int) + (m : Int)) = false := by simp; omega
  clear hsum
  go_enter Try.func11, Try.ntmps11
  go_wp2_with (at_builtin; go_must (refine wpList_append_own _ rfl (.tmp 40) (.tmp 41) 25 rfl base 5 i0 (.int .u8 0) 1 1 Try.underlying25 hi hz0 hz1 hz2 rfl (by decide) (.slice ao n cap) n xs rfl O1.out a m c news rfl HL.out ?hnews H1.out ?h63 ?hby ?hbase ?_))
  case hnews => exact fun j u hj => later_cell P1.out.below (HN.out j u hj)
  case h63 => have := HS.out; unfold maxLen; omega
  case hby => have := HS.out; omega
  case hbase => exact P1.out.baseLe
  intro v1 w1 hown1 hgrow1 _
  have P2 : Hid _ := P1.out.grown hgrow1 R1.out
  have O2 : Hid (w1.ownsRow base 5 1 v1 (n + m) (xs ++ news)) := hown1
  have R2 : Hid _ := own_row hown1
  clear hown1 hgrow1
  go_wp2_with (at_builtin; go_must (refine wpList_append_own _ rfl (.tmp 42) (.tmp 43) 25 rfl base 5 i0 (.int .u8 0) 1 1 Try.underlying25 hi hz0 hz1 hz2 rfl (by decide) v1 (n + m) (xs ++ news) rfl (O2.out.alloc _) ⟨w1.heap.size, 0, none⟩ 1 1 [.int .u8 10] rfl rfl ?hnews2 ?h12 ?h632 ?hby2 ?hbase2 ?_))
  case hnews2 => exact one_cell10 w1 5
  case h12 => intro u hu; simp at hu; subst hu; rfl
  case h632 => have := HS.out; unfold maxLen; omega
  case hby2 => have := HS.out; omega
  case hbase2 => exact (P2.out.alloc _).baseLe
  intro v2 w2 hown2 hgrow2 _
  obtain ⟨ao2, cap2, hv2⟩ := own_shape hown2
  have P3 : Hid _ := (P2.out.alloc _).grown hgrow2 R2.out
  have O3 : Hid (w2.ownsRow base 5 1 v2 (n + m + 1) (xs ++ (news ++ [.int .u8 10]))) := hown2
  have c5' : w2.cell? ⟨lb, 5, none⟩ = some (.slice ao n cap) := P3.out.cell 5
  have f5' := P3.out.free 5
  have c6' : w2.cell? ⟨lb, 6, none⟩ = some (.int .i64 k) := P3.out.cell 6
  have f6' := P3.out.free 6
  have c7' : w2.cell? ⟨lb, 7, none⟩ = some (.int .u64 (IntKind.u64.wrap (A + 1))) := P3.out.cell 7
  have ht2 : decide ((1048576 : Int) ≤ (n : Int) + (m : Int) + 1) = false := by have := HS.out; simp; omega
  rw [hv2]
  have HV : Hid _ := hv2
  clear hv2 hown2 hgrow2 c5 c7 c12 f7
  go_wp2_with fail
  go_ret
  refine ⟨rfl, .slice ao2 (n + m + 1) cap2, (P3.out.setV _).setK _, ?_⟩
  have O4 := O3.out
  rw [HV.out] at O4
  exact ownsRow_setCell_below (ownsRow_setCell_below O4 (a := ⟨lb, 5, none⟩) P3.out.lbHi _) (a := ⟨lb, 6, none⟩) P3.out.lbHi _

set_option maxHeartbeats 400000 in
theorem add11_none (W w : World) (lb base wk cd sp : Nat) (v : Value) (n : Nat) (xs : List Value) (k : Nat) (A : Int)
    (hp : LogPart W w lb base wk cd sp v k A) (hown : w.ownsRow base 5 1 v n xs) (hsum : n ≤ 1048574) (hk : k ≤ 1048576) :
    Calls Try.prog 11 #[.pointer (some ⟨lb, 0, none⟩), .slice none 0 0] w fun e w' =>
      e = .returned (.int .u64 (IntKind.u64.wrap (A + 1))) ∧ ∃ v', LogPart W w' lb base wk cd sp v' (k + 1) (IntKind.u64.wrap (A + 1)) ∧ w'.ownsRow base 5 1 v' (n + 1) (xs ++ [.int .u8 10]) := by
  obtain ⟨ao, cap, rfl⟩ := own_shape hown
  obtain ⟨i0, hi, hz0, hz1, hz2⟩ := info_parts info5
  have c12 : w.cell? ⟨lb, 12, none⟩ = some (.bool false) := hp.cell 12
  have c7 : w.cell? ⟨lb, 7, none⟩ = some (.int .u64 A) := hp.cell 7
  have f7 := hp.free 7
  have c5 : w.cell? ⟨lb, 5, none⟩ = some (.slice ao n cap) := hp.cell 5
  have P1 : Hid _ := hp.setA (IntKind.u64.wrap (A + 1))
  have O1 : Hid ((w.setCell ⟨lb, 7, none⟩ (.int .u64 (IntKind.u64.wrap (A + 1)))).ownsRow base 5 1 (.slice ao n cap) n xs) := ownsRow_setCell_below hown (a := ⟨lb, 7, none⟩) hp.lbHi (.int .u64 (IntKind.u64.wrap (A + 1)))
  have R1 : Hid _ := own_row hown
  clear hown hp
  have ht : decide ((67108864 : Int) ≤ (n : Int)) = false := by simp; omega
  have hz : (w.setCell ⟨lb, 7, none⟩ (.int .u64 (IntKind.u64.wrap (A + 1)))).heap.size = w.heap.size := by simp [World.setCell]
  go_enter Try.func11, Try.ntmps11
  go_wp2_with (first | (at_builtin; refine wpList_append_own_none rfl (.tmp 40) (.tmp 41) 25 rfl base 5 i0 1 Try.underlying25 hi (.slice ao n cap) n xs rfl O1.out rfl ?_) | (at_builtin; refine wpList_append_own _ rfl (.tmp 42) (.tmp 43) 25 rfl base 5 i0 (.int .u8 0) 1 1 Try.underlying25 hi hz0 hz1 hz2 rfl (by decide) (.slice ao n cap) n xs rfl (World.ownsRow.alloc O1.out _) ⟨w.heap.size, 0, none⟩ 1 1 [.int .u8 10] ?hx rfl ?hnews2 ?h12 ?h632 ?hby2 ?hbase2 ?_))
  case hx => rfl
  case hnews2 => rw [← hz]; exact one_cell10 _ 5
  case h12 => intro u hu; simp at hu; subst hu; rfl
  case h632 => unfold maxLen; omega
  case hby2 => omega
  case hbase2 => exact (P1.out.alloc _).baseLe
  intro v2 w2 hown2 hgrow2 _
  obtain ⟨ao2, cap2, hv2⟩ := own_shape hown2
  have P3 : Hid _ := (P1.out.alloc _).grown hgrow2 R1.out
  have O3 : Hid (w2.ownsRow base 5 1 v2 (n + 1) (xs ++ [.int .u8 10])) := hown2
  have c5' : w2.cell? ⟨lb, 5, none⟩ = some (.slice ao n cap) := P3.out.cell 5
  have f5' := P3.out.free 5
  have c6' : w2.cell? ⟨lb, 6, none⟩ = some (.int .i64 k) := P3.out.cell 6
  have f6' := P3.out.free 6
  have c7' : w2.cell? ⟨lb, 7, none⟩ = some (.int .u64 (IntKind.u64.wrap (A + 1))) := P3.out.cell 7
  have ht2 : decide ((1048576 : Int) ≤ (n : Int) + 1) = false := by simp; omega
  rw [hv2]
  have HV : Hid _ := hv2
  clear hv2 hown2 hgrow2 c5 c7 c12 f7 hz
  go_wp2_with fail
  go_ret
  refine ⟨rfl, .slice ao2 (n + 1) cap2, (P3.out.setV _).setK _, ?_⟩
  have O4 := O3.out
  rw [HV.out] at O4
  exact ownsRow_setCell_below (ownsRow_setCell_below O4 (a := ⟨lb, 5, none⟩) P3.out.lbHi _) (a := ⟨lb, 6, none⟩) P3.out.lbHi _

/-- A []byte that lies in W and holds the cells news. -/
def LineAt (W : World) (v : Value) (news : List Value) : Prop :=
  (v = .slice none 0 0 ∧ news = []) ∨ ∃ a c, v = .slice (some a) news.length c ∧ (∀ j u, news[j]? = some u → W.cell? (a.add j) = some u) ∧ ∀ u ∈ news, u.oneCell' = true

theorem add11 (W w : World) (lb base wk cd sp : Nat) (v : Value) (n : Nat) (xs : List Value) (k : Nat) (A : Int) (lv : Value) (news : List Value)
    (hp : LogPart W w lb base wk cd sp v k A) (hown : w.ownsRow base 5 1 v n xs) (hline : LineAt W lv news) (hsum : n + news.length ≤ 1048574) (hk : k ≤ 1048576) :
    Calls Try.prog 11 #[.pointer (some ⟨lb, 0, none⟩), lv] w fun e w' =>
      e = .returned (.int .u64 (IntKind.u64.wrap (A + 1))) ∧ ∃ v', LogPart W w' lb base wk cd sp v' (k + 1) (IntKind.u64.wrap (A + 1)) ∧ w'.ownsRow base 5 1 v' (n + news.length + 1) (xs ++ (news ++ [.int .u8 10])) := by
  rcases hline with ⟨rfl, rfl⟩ | ⟨a, c, rfl, h1, h2⟩
  · exact add11_none W w lb base wk cd sp v n xs k A hp hown hsum hk
  · exact add11_some W w lb base wk cd sp v n xs k A a news.length c news hp hown (by simp) h1 h2 hsum hk

set_option maxHeartbeats 400000 in
theorem add7 (W w : World) (lb base wk cd sp : Nat) (v : Value) (n : Nat) (xs : List Value) (k : Nat) (A : Int) (lv : Value) (news : List Value)
    (hp : LogPart W w lb base wk cd sp v k A) (hown : w.ownsRow base 5 1 v n xs) (hline : LineAt W lv news) (hsum : n + news.length ≤ 1048574) (hk : k ≤ 1048576) :
    Calls Try.prog 7 #[.pointer (some ⟨lb, 0, none⟩), lv] w fun e w' =>
      e = .returned (.int .u64 (IntKind.u64.wrap (A + 1))) ∧ ∃ v', LogPart W w' lb base wk cd sp v' (k + 1) (IntKind.u64.wrap (A + 1)) ∧ w'.ownsRow base 5 1 v' (n + news.length + 1) (xs ++ (news ++ [.int .u8 10])) := by
  have c := add11 W w lb base wk cd sp v n xs k A lv news hp hown hline hsum hk
  clear hp hown hline hsum hk
  go_enter Try.func7, Try.ntmps7
  go_wp2_with (go_at_call 11; refine c.mono ?_; rintro e w' ⟨rfl, hv⟩)
  go_ret
  exact ⟨rfl, hv⟩
end Go.Proofs.Qxb6618560a
