/-
  THE SECOND LAW's WALK: FnIsLogHostLetterOrSpaceInserted returns true at every name and every k.
-/
import Derived.Test.Qxb6618505aDoorLawA
namespace Go.Proofs.Qxb6618505aDoor
open Go.RowKit

def FitB (en X N G : Bool) : Prop := (en && N) = false ∧ X = (en || N) ∧ (G && !X) = false
theorem fitB_ways {en X N G : Bool} (h : FitB en X N G) :
    (en = false ∧ ((X = false ∧ N = false ∧ G = false) ∨ (X = true ∧ N = true ∧ (G = false ∨ G = true)))) ∨ (en = true ∧ X = true ∧ N = false ∧ (G = false ∨ G = true)) := by
  obtain ⟨h1, h2, h3⟩ := h
  subst h2
  revert h1 h3
  cases en <;> cases N <;> cases G <;> simp

set_option maxRecDepth 100000 in
set_option maxHeartbeats 4000000 in
theorem law4_core (s : ByteArray) (n : Nat) (w : World) (hW : Lib.WhiteTab 0 w) (hs : s.size ≤ 1048576) (hn : n ≤ s.size)
    (hc : n = s.size ∨ ∃ h : n < s.size, (s[n].toNat : Int) < 128 ∨ 192 ≤ (s[n].toNat : Int))
    (en X N G : Bool) (hen : s.toList.isEmpty = en)
    (hx : HostIs (s.extract 0 n ++ ⟨#[120]⟩ ++ s.extract n s.size) X) (hN : HostIs s N) (h1 : HostIs (s.extract 0 n ++ ⟨#[32]⟩ ++ s.extract n s.size) false)
    (h2 : HostIs (s.extract 0 n ++ ⟨#[227, 128, 128]⟩ ++ s.extract n s.size) false) (h3 : HostIs (s.extract 0 n ++ ⟨#[194, 133]⟩ ++ s.extract n s.size) false) (hg : GraphicIs s G)
    (hfit : FitB en X N G) :
    Calls Tryd.prog 4 #[.string s, .int .i64 n] w fun e w' => e = .returned (.bool true) ∧ Below w.heap.size w w' := by
  have hcc : (¬ n < s.size) ∨ (∃ h : n < s.size, (s[n].toNat : Int) < 128) ∨ (∃ h : n < s.size, 192 ≤ (s[n].toNat : Int)) := by
    rcases hc with h | ⟨h, h' | h'⟩
    · exact .inl (by omega)
    · exact .inr (.inl ⟨h, h'⟩)
    · exact .inr (.inr ⟨h, h'⟩)
  clear hc
  have HF : Hid _ := fitB_ways hfit
  have HN : Hid _ := hen
  clear hfit hen
  rcases hcc with hb | ⟨hlt, hb⟩ | ⟨hlt, hb⟩
  all_goals
    go_enter Tryd.func4, Tryd.ntmps4
    go_wp2_with fail
    refine (z8_yes _ _ _ hs).mono ?_
    rintro e w' ⟨rfl, rfl⟩
    go_wp2_with fail
    refine (hx _ hW).mono ?_
    rintro e w1 ⟨rfl, hb1⟩
    have hW1 := WhiteTab_below hW hb1
    go_wp2_with fail
    refine (hg _).mono ?_
    rintro e w5 ⟨rfl, rfl⟩
    have fn : _ := HN.out
    rcases HF.out with ⟨rfl, hh⟩ | ⟨rfl, rfl, rfl, hG⟩
    · clear HF HN
      rcases hh with ⟨rfl, rfl, rfl⟩ | ⟨rfl, rfl, rfl | rfl⟩
      all_goals
        go_wp2_with fail
        refine (hN _ hW1).mono ?_
        rintro e w2 ⟨rfl, hb2⟩
        have hWW := WhiteTab_below hW1 hb2
        have hbb := bel_trans hb1 hb2
        go_wp2_with fail
        refine (h1 _ hWW).mono ?_
        rintro e w3 ⟨rfl, hb3⟩
        have hW3 := WhiteTab_below hWW hb3
        go_wp2_with fail
        refine (h2 _ hW3).mono ?_
        rintro e w4 ⟨rfl, hb4⟩
        have hW4 := WhiteTab_below hW3 hb4
        go_wp2_with fail
        refine (h3 _ hW4).mono ?_
        rintro e w5 ⟨rfl, hb5⟩
        go_wp2_with fail
        go_ret
        exact ⟨rfl, bel_trans (bel_trans (bel_trans hbb hb3) hb4) hb5⟩
    · clear HF HN
      have hWW := hW1
      have hbb := hb1
      rcases hG with rfl | rfl
      all_goals
        go_wp2_with fail
        refine (h1 _ hWW).mono ?_
        rintro e w3 ⟨rfl, hb3⟩
        have hW3 := WhiteTab_below hWW hb3
        go_wp2_with fail
        refine (h2 _ hW3).mono ?_
        rintro e w4 ⟨rfl, hb4⟩
        have hW4 := WhiteTab_below hW3 hb4
        go_wp2_with fail
        refine (h3 _ hW4).mono ?_
        rintro e w5 ⟨rfl, hb5⟩
        go_wp2_with fail
        go_ret
        exact ⟨rfl, bel_trans (bel_trans (bel_trans hbb hb3) hb4) hb5⟩

set_option maxHeartbeats 400000 in
theorem law4_big (s : ByteArray) (k : Int) (w : World) (hs : ¬ s.size ≤ 1048576) :
    Calls Tryd.prog 4 #[.string s, .int .i64 k] w fun e w' => e = .returned (.bool true) ∧ Below w.heap.size w w' := by
  go_enter Tryd.func4, Tryd.ntmps4
  go_wp2_with fail
  refine (z8_no _ _ _ hs).mono ?_
  rintro e w' ⟨rfl, rfl⟩
  go_wp2_with fail
  go_ret
  exact ⟨rfl, Below.refl _ _⟩
set_option maxHeartbeats 400000 in
theorem law4_off (s : ByteArray) (k : Int) (w : World) (hs : s.size ≤ 1048576) (hk : k < 0 ∨ (s.size : Int) < k) :
    Calls Tryd.prog 4 #[.string s, .int .i64 k] w fun e w' => e = .returned (.bool true) ∧ Below w.heap.size w w' := by
  rcases hk with hk | hk
  · go_enter Tryd.func4, Tryd.ntmps4
    go_wp2_with fail
    refine (z8_yes _ _ _ hs).mono ?_
    rintro e w' ⟨rfl, rfl⟩
    go_wp2_with fail
    go_ret
    exact ⟨rfl, Below.refl _ _⟩
  · have hk0 : ¬ k < 0 := by omega
    go_enter Tryd.func4, Tryd.ntmps4
    go_wp2_with fail
    refine (z8_yes _ _ _ hs).mono ?_
    rintro e w' ⟨rfl, rfl⟩
    go_wp2_with fail
    go_ret
    exact ⟨rfl, Below.refl _ _⟩
set_option maxRecDepth 100000 in
set_option maxHeartbeats 400000 in
theorem law4_cont (s : ByteArray) (n : Nat) (w : World) (hs : s.size ≤ 1048576) (hn : n < s.size) (h1 : 128 ≤ (s[n].toNat : Int)) (h2 : (s[n].toNat : Int) < 192) :
    Calls Tryd.prog 4 #[.string s, .int .i64 n] w fun e w' => e = .returned (.bool true) ∧ Below w.heap.size w w' := by
  go_enter Tryd.func4, Tryd.ntmps4
  go_wp2_with fail
  refine (z8_yes _ _ _ hs).mono ?_
  rintro e w' ⟨rfl, rfl⟩
  go_wp2_with fail
  go_ret
  exact ⟨rfl, Below.refl _ _⟩

theorem hostIs_false {s : ByteArray} (h : Plain.host s.data.toList = false) : HostIs s false := h ▸ hostIs s
theorem mid_data (s : ByteArray) (n : Nat) (m : ByteArray) : (s.extract 0 n ++ m ++ s.extract n s.size).data.toList = s.data.toList.take n ++ m.data.toList ++ s.data.toList.drop n := by
  rw [ByteArray.data_append, ByteArray.data_append, Array.toList_append, Array.toList_append, cut_a, cut_b]

theorem law4 (s : ByteArray) (k : Int) (w : World) (hW : Lib.WhiteTab 0 w) :
    Calls Tryd.prog 4 #[.string s, .int .i64 k] w fun e w' => e = .returned (.bool true) ∧ Below w.heap.size w w' := by
  by_cases hs : s.size ≤ 1048576
  · by_cases hk : k < 0 ∨ (s.size : Int) < k
    · exact law4_off s k w hs hk
    · obtain ⟨n, rfl⟩ := Int.eq_ofNat_of_zero_le (show 0 ≤ k by omega)
      have hn : n ≤ s.size := by omega
      by_cases hcont : ∃ h : n < s.size, 128 ≤ (s[n].toNat : Int) ∧ (s[n].toNat : Int) < 192
      · obtain ⟨h, h1, h2⟩ := hcont
        exact law4_cont s n w hs h h1 h2
      · have hc : n = s.size ∨ ∃ h : n < s.size, (s[n].toNat : Int) < 128 ∨ 192 ≤ (s[n].toNat : Int) := by
          rcases Nat.lt_or_ge n s.size with h | h
          · right
            refine ⟨h, ?_⟩
            by_cases h1 : (s[n].toNat : Int) < 128
            · exact .inl h1
            · right
              exact Int.not_lt.1 fun h2 => hcont ⟨h, by omega, h2⟩
          · left; omega
        have hst := starts_at s n hc
        have hl : s.data.toList = s.data.toList.take n ++ s.data.toList.drop n := (List.take_append_drop n _).symm
        have i1 := hostIs_false (s := s.extract 0 n ++ ⟨#[32]⟩ ++ s.extract n s.size) (by rw [mid_data]; exact Plain.ins_20 _ _ hst)
        have i2 := hostIs_false (s := s.extract 0 n ++ ⟨#[227, 128, 128]⟩ ++ s.extract n s.size) (by rw [mid_data]; exact Plain.ins_3000 _ _ hst)
        have i3 := hostIs_false (s := s.extract 0 n ++ ⟨#[194, 133]⟩ ++ s.extract n s.size) (by rw [mid_data]; exact Plain.ins_85 _ _ hst)
        refine law4_core s n w hW hs hn hc _ _ _ _ rfl (hostIs _) (hostIs _) i1 i2 i3 (graphicIs s hs) ?_
        have hx := Plain.ins_x (s.data.toList.take n) (s.data.toList.drop n) hst
        rw [← hl] at hx
        rw [Lib.toList_data, mid_data]
        refine ⟨isEmpty_host, hx, ?_⟩
        show (_ && !(Plain.host (s.data.toList.take n ++ [120] ++ s.data.toList.drop n))) = false
        rw [hx]
        cases hg : Plain.graphic s.data.toList
        · rfl
        · rw [Plain.graphic_host hg]; simp
  · exact law4_big s k w hs
end Go.Proofs.Qxb6618505aDoor
