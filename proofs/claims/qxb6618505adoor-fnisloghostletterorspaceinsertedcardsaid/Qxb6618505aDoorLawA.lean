/-
  THE FIRST LAW's WALK: FnIsLogHostSplitsAtCharacterBoundary returns true at every name and every k. The answers of the four calls of isLogHost and of zzGraphicASCII are taken as Bools; the plain law leaves 12 ways.
-/
import Derived.Test.Qxb6618505aDoorHost
namespace Go.Proofs.Qxb6618505aDoor
open Go.RowKit

/-- 'isLogHost answers b at s', as a name that the walk does not look behind. -/
def HostIs (s : ByteArray) (b : Bool) : Prop := ∀ w : World, Lib.WhiteTab 0 w → Calls Tryd.prog 6 #[.string s] w fun e w' => e = .returned (.bool b) ∧ Below w.heap.size w w'
def GraphicIs (s : ByteArray) (b : Bool) : Prop := ∀ w : World, Calls Tryd.prog 7 #[.string s] w fun e w' => e = .returned (.bool b) ∧ w' = w
theorem hostIs (s : ByteArray) : HostIs s (Plain.host s.data.toList) := fun w hW => host6 s w hW
theorem graphicIs (s : ByteArray) (h : s.size ≤ 1048576) : GraphicIs s (Plain.graphic s.data.toList) := fun w => graphic7 s w h

theorem bel_trans {a b c : World} (h : Below a.heap.size a b) (k : Below b.heap.size b c) : Below a.heap.size a c := h.trans (k.mono h.size)

/-- What the plain law leaves of the eight answers. -/
def Fit (en ea eb B0 B1 B2 B3 G : Bool) : Prop :=
  en = (ea && eb) ∧ (ea && B1) = false ∧ (eb && B2) = false ∧ B0 = (!en && (ea || B1) && (eb || B2)) ∧ B3 = (ea || B1) ∧ (G && !B0) = false
theorem fit_ways {en ea eb B0 B1 B2 B3 G : Bool} (h : Fit en ea eb B0 B1 B2 B3 G) :
    (en = false ∧ ea = false ∧ eb = false ∧ B0 = false ∧ B1 = false ∧ B2 = false ∧ B3 = false ∧ G = false) ∨ (en = false ∧ ea = false ∧ eb = false ∧ B0 = false ∧ B1 = false ∧ B2 = true ∧ B3 = false ∧ G = false) ∨ (en = false ∧ ea = false ∧ eb = false ∧ B0 = false ∧ B1 = true ∧ B2 = false ∧ B3 = true ∧ G = false) ∨ (en = false ∧ ea = false ∧ eb = false ∧ B0 = true ∧ B1 = true ∧ B2 = true ∧ B3 = true ∧ G = false) ∨ (en = false ∧ ea = false ∧ eb = false ∧ B0 = true ∧ B1 = true ∧ B2 = true ∧ B3 = true ∧ G = true) ∨ (en = false ∧ ea = false ∧ eb = true ∧ B0 = false ∧ B1 = false ∧ B2 = false ∧ B3 = false ∧ G = false) ∨ (en = false ∧ ea = false ∧ eb = true ∧ B0 = true ∧ B1 = true ∧ B2 = false ∧ B3 = true ∧ G = false) ∨ (en = false ∧ ea = false ∧ eb = true ∧ B0 = true ∧ B1 = true ∧ B2 = false ∧ B3 = true ∧ G = true) ∨ (en = false ∧ ea = true ∧ eb = false ∧ B0 = false ∧ B1 = false ∧ B2 = false ∧ B3 = true ∧ G = false) ∨ (en = false ∧ ea = true ∧ eb = false ∧ B0 = true ∧ B1 = false ∧ B2 = true ∧ B3 = true ∧ G = false) ∨ (en = false ∧ ea = true ∧ eb = false ∧ B0 = true ∧ B1 = false ∧ B2 = true ∧ B3 = true ∧ G = true) ∨ (en = true ∧ ea = true ∧ eb = true ∧ B0 = false ∧ B1 = false ∧ B2 = false ∧ B3 = true ∧ G = false) := by
  obtain ⟨h1, h2, h3, h4, h5, h6⟩ := h
  subst h1 h4 h5
  revert h2 h3 h6
  cases ea <;> cases eb <;> cases B1 <;> cases B2 <;> cases G <;> simp

set_option maxRecDepth 100000 in
set_option maxHeartbeats 4000000 in
theorem law3_core (s : ByteArray) (n : Nat) (w : World) (hW : Lib.WhiteTab 0 w) (hs : s.size ≤ 1048576) (hn : n ≤ s.size)
    (hc : n = s.size ∨ ∃ h : n < s.size, (s[n].toNat : Int) < 128 ∨ 192 ≤ (s[n].toNat : Int))
    (en ea eb B0 B1 B2 B3 G : Bool) (hen : s.toList.isEmpty = en) (hea : (s.extract 0 n).toList.isEmpty = ea) (heb : (s.extract n s.size).toList.isEmpty = eb)
    (h0 : HostIs s B0) (h1 : HostIs (s.extract 0 n) B1) (h2 : HostIs (s.extract n s.size) B2) (h3 : HostIs (s.extract 0 n ++ ⟨#[120]⟩) B3) (hg : GraphicIs s G)
    (hfit : Fit en ea eb B0 B1 B2 B3 G) :
    Calls Tryd.prog 3 #[.string s, .int .i64 n] w fun e w' => e = .returned (.bool true) ∧ Below w.heap.size w w' := by
  have hcc : (¬ n < s.size) ∨ (∃ h : n < s.size, (s[n].toNat : Int) < 128) ∨ (∃ h : n < s.size, 192 ≤ (s[n].toNat : Int)) := by
    rcases hc with h | ⟨h, h' | h'⟩
    · exact .inl (by omega)
    · exact .inr (.inl ⟨h, h'⟩)
    · exact .inr (.inr ⟨h, h'⟩)
  clear hc
  have HF : Hid _ := fit_ways hfit
  have HN : Hid _ := hen
  have HA : Hid _ := hea
  have HB : Hid _ := heb
  clear hfit hen hea heb
  rcases hcc with hb | ⟨hlt, hb⟩ | ⟨hlt, hb⟩
  all_goals
    go_enter Tryd.func3, Tryd.ntmps3
    go_wp2_with fail
    refine (z5_yes _ _ _ hs).mono ?_
    rintro e w' ⟨rfl, rfl⟩
    go_wp2_with fail
    refine (h0 _ hW).mono ?_
    rintro e w1 ⟨rfl, hb1⟩
    have hW1 := WhiteTab_below hW hb1
    go_wp2_with fail
    refine (h1 _ hW1).mono ?_
    rintro e w2 ⟨rfl, hb2⟩
    have hW2 := WhiteTab_below hW1 hb2
    go_wp2_with fail
    refine (h2 _ hW2).mono ?_
    rintro e w3 ⟨rfl, hb3⟩
    have hW3 := WhiteTab_below hW2 hb3
    go_wp2_with fail
    refine (h3 _ hW3).mono ?_
    rintro e w4 ⟨rfl, hb4⟩
    go_wp2_with fail
    refine (hg _).mono ?_
    rintro e w5 ⟨rfl, rfl⟩
    have hbb := bel_trans (bel_trans (bel_trans hb1 hb2) hb3) hb4
    clear hW hW1 hW2 hW3 hb1 hb2 hb3 hb4 h0 h1 h2 h3 hg
    have fn : _ := HN.out
    have fa : _ := HA.out
    have fb : _ := HB.out
    rcases HF.out with ⟨rfl, rfl, rfl, rfl, rfl, rfl, rfl, rfl⟩ | ⟨rfl, rfl, rfl, rfl, rfl, rfl, rfl, rfl⟩ | ⟨rfl, rfl, rfl, rfl, rfl, rfl, rfl, rfl⟩ | ⟨rfl, rfl, rfl, rfl, rfl, rfl, rfl, rfl⟩ | ⟨rfl, rfl, rfl, rfl, rfl, rfl, rfl, rfl⟩ | ⟨rfl, rfl, rfl, rfl, rfl, rfl, rfl, rfl⟩ | ⟨rfl, rfl, rfl, rfl, rfl, rfl, rfl, rfl⟩ | ⟨rfl, rfl, rfl, rfl, rfl, rfl, rfl, rfl⟩ | ⟨rfl, rfl, rfl, rfl, rfl, rfl, rfl, rfl⟩ | ⟨rfl, rfl, rfl, rfl, rfl, rfl, rfl, rfl⟩ | ⟨rfl, rfl, rfl, rfl, rfl, rfl, rfl, rfl⟩ | ⟨rfl, rfl, rfl, rfl, rfl, rfl, rfl, rfl⟩
    all_goals
      clear HF HN HA HB
      go_wp2_with fail
      go_ret
      exact ⟨rfl, hbb⟩

set_option maxHeartbeats 400000 in
theorem law3_big (s : ByteArray) (k : Int) (w : World) (hs : ¬ s.size ≤ 1048576) :
    Calls Tryd.prog 3 #[.string s, .int .i64 k] w fun e w' => e = .returned (.bool true) ∧ Below w.heap.size w w' := by
  go_enter Tryd.func3, Tryd.ntmps3
  go_wp2_with fail
  refine (z5_no _ _ _ hs).mono ?_
  rintro e w' ⟨rfl, rfl⟩
  go_wp2_with fail
  go_ret
  exact ⟨rfl, Below.refl _ _⟩
set_option maxHeartbeats 400000 in
theorem law3_off (s : ByteArray) (k : Int) (w : World) (hs : s.size ≤ 1048576) (hk : k < 0 ∨ (s.size : Int) < k) :
    Calls Tryd.prog 3 #[.string s, .int .i64 k] w fun e w' => e = .returned (.bool true) ∧ Below w.heap.size w w' := by
  rcases hk with hk | hk
  · go_enter Tryd.func3, Tryd.ntmps3
    go_wp2_with fail
    refine (z5_yes _ _ _ hs).mono ?_
    rintro e w' ⟨rfl, rfl⟩
    go_wp2_with fail
    go_ret
    exact ⟨rfl, Below.refl _ _⟩
  · have hk0 : ¬ k < 0 := by omega
    go_enter Tryd.func3, Tryd.ntmps3
    go_wp2_with fail
    refine (z5_yes _ _ _ hs).mono ?_
    rintro e w' ⟨rfl, rfl⟩
    go_wp2_with fail
    go_ret
    exact ⟨rfl, Below.refl _ _⟩
set_option maxRecDepth 100000 in
set_option maxHeartbeats 400000 in
theorem law3_cont (s : ByteArray) (n : Nat) (w : World) (hs : s.size ≤ 1048576) (hn : n < s.size) (h1 : 128 ≤ (s[n].toNat : Int)) (h2 : (s[n].toNat : Int) < 192) :
    Calls Tryd.prog 3 #[.string s, .int .i64 n] w fun e w' => e = .returned (.bool true) ∧ Below w.heap.size w w' := by
  go_enter Tryd.func3, Tryd.ntmps3
  go_wp2_with fail
  refine (z5_yes _ _ _ hs).mono ?_
  rintro e w' ⟨rfl, rfl⟩
  go_wp2_with fail
  go_ret
  exact ⟨rfl, Below.refl _ _⟩

theorem cut_a (s : ByteArray) (n : Nat) : (s.extract 0 n).data.toList = s.data.toList.take n := by
  rw [Lib.extract_data]; simp
theorem cut_b (s : ByteArray) (n : Nat) : (s.extract n s.size).data.toList = s.data.toList.drop n := by
  rw [Lib.extract_data]
  exact List.take_of_length_le (by simp)
theorem starts_at (s : ByteArray) (n : Nat) (hc : n = s.size ∨ ∃ h : n < s.size, (s[n].toNat : Int) < 128 ∨ 192 ≤ (s[n].toNat : Int)) : Plain.Starts (s.data.toList.drop n) := by
  rcases hc with rfl | ⟨h, hb⟩
  · rw [List.drop_eq_nil_of_le (by simp)]
    exact Plain.starts_nil
  · have h' : n < s.data.toList.length := by simpa using h
    rw [List.drop_eq_getElem_cons h']
    apply Plain.starts_cons
    have e : s.data.toList[n] = s[n] := rfl
    rw [e]
    have := s[n].toNat_lt
    omega
theorem isEmpty_host {l : List UInt8} : (l.isEmpty && Plain.host l) = false := by
  cases l <;> simp [Plain.host]

theorem law3 (s : ByteArray) (k : Int) (w : World) (hW : Lib.WhiteTab 0 w) :
    Calls Tryd.prog 3 #[.string s, .int .i64 k] w fun e w' => e = .returned (.bool true) ∧ Below w.heap.size w w' := by
  by_cases hs : s.size ≤ 1048576
  · by_cases hk : k < 0 ∨ (s.size : Int) < k
    · exact law3_off s k w hs hk
    · obtain ⟨n, rfl⟩ := Int.eq_ofNat_of_zero_le (show 0 ≤ k by omega)
      have hn : n ≤ s.size := by omega
      by_cases hcont : ∃ h : n < s.size, 128 ≤ (s[n].toNat : Int) ∧ (s[n].toNat : Int) < 192
      · obtain ⟨h, h1, h2⟩ := hcont
        exact law3_cont s n w hs h h1 h2
      · have hc : n = s.size ∨ ∃ h : n < s.size, (s[n].toNat : Int) < 128 ∨ 192 ≤ (s[n].toNat : Int) := by
          rcases Nat.lt_or_ge n s.size with h | h
          · right
            refine ⟨h, ?_⟩
            by_cases h1 : (s[n].toNat : Int) < 128
            · exact .inl h1
            · right
              exact Int.not_lt.1 fun h2 => hcont ⟨h, by omega, h2⟩
          · left; omega
        have hst := starts_at s n hc
        refine law3_core s n w hW hs hn hc _ _ _ _ _ _ _ _ rfl rfl rfl (hostIs _) (hostIs _) (hostIs _) (hostIs _) (graphicIs s hs) ?_
        have hl : s.data.toList = s.data.toList.take n ++ s.data.toList.drop n := (List.take_append_drop n _).symm
        have hx : (s.extract 0 n ++ ⟨#[120]⟩).data.toList = s.data.toList.take n ++ [120] := by
          rw [ByteArray.data_append, Array.toList_append, cut_a]
        have hlaw := Plain.split_law (s.data.toList.take n) (s.data.toList.drop n) hst
        rw [← hl] at hlaw
        simp only [Lib.toList_data, cut_a, cut_b, hx]
        refine ⟨?_, isEmpty_host, isEmpty_host, hlaw, Plain.split_x _, ?_⟩
        · rw [Bool.eq_iff_iff]
          simp only [Bool.and_eq_true, List.isEmpty_iff]
          constructor
          · intro h; rw [h]; simp
          · intro h; rw [hl, h.1, h.2]; rfl
        · cases hg : Plain.graphic s.data.toList
          · rfl
          · rw [Plain.graphic_host hg]; rfl
  · exact law3_big s k w hs
end Go.Proofs.Qxb6618505aDoor
