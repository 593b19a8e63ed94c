/-
  THE WALKS under 'FnIsStringConstantDecidedByKindAndFirstTwoBytes': strings.HasPrefix, isDigit, isStringConstant, ZZisStringConstant, zzBytes_..: each returns a plain function of its arguments; the plain law over lists of bytes ('sc_quote' .. 'sc_two').
-/
import Derived.Test.Qxb6618616aRows
import Derived.WalkKit
import Derived.WalkSpells
import Derived.WalkLawsBesides
import Derived.ProofKit
import Derived.Lib.Strings
namespace Go.Proofs.Qxb6618616a.isc
open Go.RowKit

/-- strings.HasPrefix, in the walk's own spelling. -/
def hpB (s p : ByteArray) : Bool := decide (p.size ≤ s.size) && ((s.extract 0 p.size).toList == p.toList)
def digB (c : UInt8) : Bool := decide (48 ≤ (c.toNat : Int)) && decide ((c.toNat : Int) ≤ 57)
/-- isStringConstant. -/
def scB (word : Bool) (t : ByteArray) : Bool :=
  !word && (hpB t ⟨#[101, 39]⟩ || hpB t ⟨#[69, 39]⟩ || hpB t ⟨#[39]⟩ || (hpB t ⟨#[36]⟩ && decide (1 < t.size) && !digB (t.data.toList.getD 1 0)))

/-! ### the plain law -/
def scL (word : Bool) (l : List UInt8) : Bool :=
  !word && ([101, 39].isPrefixOf l || [69, 39].isPrefixOf l || [39].isPrefixOf l || ([36].isPrefixOf l && decide (1 < l.length) && !digB (l.getD 1 0)))
theorem hp_list (s p : ByteArray) : hpB s p = p.data.toList.isPrefixOf s.data.toList := by
  unfold hpB
  rw [Lib.extract_toList, Lib.toList_data, Bool.eq_iff_iff]
  simp only [List.drop_zero, Nat.sub_zero, Bool.and_eq_true, decide_eq_true_eq, beq_iff_eq, List.isPrefixOf_iff_prefix]
  have hp : p.size = p.data.toList.length := by simp
  have hs : s.size = s.data.toList.length := by simp
  rw [hp, hs]
  constructor
  · rintro ⟨_, h⟩
    rw [← h]
    exact List.take_prefix _ _
  · intro h
    exact ⟨h.length_le, (List.prefix_iff_eq_take.1 h).symm⟩
theorem sc_list (word : Bool) (t : ByteArray) : scB word t = scL word t.data.toList := by
  unfold scB scL
  simp only [hp_list]
  have hs : t.size = t.data.toList.length := by simp
  rw [hs]
theorem sc_quote (word : Bool) (s : ByteArray) : scB word (⟨#[39]⟩ ++ s) = !word := by
  rw [sc_list]
  simp [scL, ByteArray.data_append]
theorem sc_upper (word : Bool) (s : ByteArray) : scB word (⟨#[69, 39]⟩ ++ s) = !word := by
  rw [sc_list]
  simp [scL, ByteArray.data_append]
theorem sc_lower (word : Bool) (s : ByteArray) : scB word (⟨#[101, 39]⟩ ++ s) = !word := by
  rw [sc_list]
  simp [scL, ByteArray.data_append]
theorem scL_two (word : Bool) (a b : UInt8) (l : List UInt8) : scL word (a :: b :: l) = scL word [a, b] := by
  unfold scL
  simp [List.isPrefixOf]
theorem sc_two (word : Bool) (t s : ByteArray) (h : 2 ≤ t.size) : scB word (t ++ s) = scB word (t.extract 0 2) := by
  rw [sc_list, sc_list, Lib.extract_data, ByteArray.data_append, Array.toList_append]
  have h' : 2 ≤ t.data.toList.length := by simpa using h
  match hl : t.data.toList, h' with
  | a :: b :: r, _ => 
    simp only [List.cons_append, List.drop_zero, Nat.sub_zero, List.take_succ_cons, List.take_zero]
    exact scL_two word a b _

/-! ### the walks -/
set_option maxHeartbeats 400000 in
theorem hp27 (s p : ByteArray) (w : World) (_hs : s.size ≤ maxLen) (_hp : p.size ≤ maxLen) :
    Calls Try.prog 27 #[.string s, .string p] w fun e w' => e = .returned (.bool (hpB s p)) ∧ w' = w := by
  unfold maxLen at _hs _hp
  by_cases h : p.size ≤ s.size
  · have e : hpB s p = ((s.extract 0 p.size).toList == p.toList) := by simp [hpB, h]
    rw [e]; clear e
    go_enter Try.func27, Try.ntmps27
    go_wp2
    go_ret
    exact ⟨rfl, rfl⟩
  · have e : hpB s p = false := by simp [hpB, h]
    rw [e]; clear e
    go_enter Try.func27, Try.ntmps27
    go_wp2
    go_ret
    exact ⟨rfl, rfl⟩

set_option maxHeartbeats 400000 in
theorem hp23 (s p : ByteArray) (w : World) (hs : s.size ≤ maxLen) (hp : p.size ≤ maxLen) :
    Calls Try.prog 23 #[.string s, .string p] w fun e w' => e = .returned (.bool (hpB s p)) ∧ w' = w := by
  go_enter Try.func23, Try.ntmps23
  go_wp2_with (go_at_call 27; refine (hp27 _ _ _ hs hp).mono ?_; rintro e w' ⟨rfl, rfl⟩)
  go_ret
  exact ⟨rfl, rfl⟩

set_option maxHeartbeats 400000 in
theorem dig24 (c : UInt8) (w : World) :
    Calls Try.prog 24 #[.int .u8 c.toNat] w fun e w' => e = .returned (.bool (digB c)) ∧ w' = w := by
  by_cases h : 48 ≤ (c.toNat : Int)
  · have e : digB c = decide ((c.toNat : Int) ≤ 57) := by simp [digB, h]
    rw [e]; clear e
    go_enter Try.func24, Try.ntmps24
    go_wp2
    go_ret
    exact ⟨rfl, rfl⟩
  · have e : digB c = false := by simp [digB, h]
    rw [e]; clear e
    go_enter Try.func24, Try.ntmps24
    go_wp2
    go_ret
    exact ⟨rfl, rfl⟩

set_option maxHeartbeats 1000000 in
theorem sc20 (word : Bool) (t ue : ByteArray) (st en : Int) (w : World) (ht : t.size ≤ maxLen) :
    Calls Try.prog 20 #[.agg #[.bool word, .string t, .string ue, .int .i64 st, .int .i64 en]] w fun e w' => e = .returned (.bool (scB word t)) ∧ Grown w w' := by
  have fin : ∀ c ty, Grown w (w.alloc (.cells c ty)) := fun c ty => (Grown.refl w).alloc c ty
  cases word
  · cases h1 : hpB t ⟨#[101, 39]⟩
    · cases h2 : hpB t ⟨#[69, 39]⟩
      · cases h3 : hpB t ⟨#[39]⟩
        · cases h4 : hpB t ⟨#[36]⟩
          · have e : scB false t = false := by simp [scB, h1, h2, h3, h4]
            rw [e]; clear e
            go_enter Try.func20, Try.ntmps20
            go_wp2_with (go_at_call 23; refine (hp23 _ _ _ ht (by decide)).mono ?_; rintro e w' ⟨rfl, rfl⟩)
            go_ret
            exact ⟨rfl, fin _ _⟩
          · by_cases hz : 1 < t.size
            · have e : scB false t = !digB t[1] := by
                have hz' : 1 < t.data.size := hz
                have : t.data[1] = t[1] := rfl
                simp [scB, h1, h2, h3, h4, hz, this]
              rw [e]; clear e
              have hm : t.size ≤ 2 ^ 63 - 1 := ht
              go_enter Try.func20, Try.ntmps20
              go_wp2_with (first | (go_at_call 23; refine (hp23 _ _ _ ht (by decide)).mono ?_; rintro e w' ⟨rfl, rfl⟩) | (go_at_call 24; refine (dig24 _ _).mono ?_; rintro e w' ⟨rfl, rfl⟩))
              go_ret
              exact ⟨rfl, fin _ _⟩
            · have e : scB false t = false := by simp [scB, h1, h2, h3, hz]
              rw [e]; clear e
              have hm : t.size ≤ 2 ^ 63 - 1 := ht
              go_enter Try.func20, Try.ntmps20
              go_wp2_with (go_at_call 23; refine (hp23 _ _ _ ht (by decide)).mono ?_; rintro e w' ⟨rfl, rfl⟩)
              go_ret
              exact ⟨rfl, fin _ _⟩
        · have e : scB false t = true := by simp [scB, h3]
          rw [e]; clear e
          go_enter Try.func20, Try.ntmps20
          go_wp2_with (go_at_call 23; refine (hp23 _ _ _ ht (by decide)).mono ?_; rintro e w' ⟨rfl, rfl⟩)
          go_ret
          exact ⟨rfl, fin _ _⟩
      · have e : scB false t = true := by simp [scB, h2]
        rw [e]; clear e
        go_enter Try.func20, Try.ntmps20
        go_wp2_with (go_at_call 23; refine (hp23 _ _ _ ht (by decide)).mono ?_; rintro e w' ⟨rfl, rfl⟩)
        go_ret
        exact ⟨rfl, fin _ _⟩
    · have e : scB false t = true := by simp [scB, h1]
      rw [e]; clear e
      go_enter Try.func20, Try.ntmps20
      go_wp2_with (go_at_call 23; refine (hp23 _ _ _ ht (by decide)).mono ?_; rintro e w' ⟨rfl, rfl⟩)
      go_ret
      exact ⟨rfl, fin _ _⟩
  · have e : scB true t = false := by simp [scB]
    rw [e]; clear e
    cases h1 : hpB t ⟨#[101, 39]⟩
    all_goals
      go_enter Try.func20, Try.ntmps20
      go_wp2_with (go_at_call 23; refine (hp23 _ _ _ ht (by decide)).mono ?_; rintro e w' ⟨rfl, rfl⟩)
      go_ret
      exact ⟨rfl, fin _ _⟩

set_option maxHeartbeats 400000 in
theorem sc8 (word : Bool) (t ue : ByteArray) (st en : Int) (w : World) (ht : t.size ≤ maxLen) :
    Calls Try.prog 8 #[.bool word, .string t, .string ue, .int .i64 st, .int .i64 en] w fun e w' => e = .returned (.bool (scB word t)) ∧ Grown w w' := by
  go_enter Try.func8, Try.ntmps8
  go_wp2_with (go_at_call 20; refine (sc20 _ _ _ _ _ _ ht).mono ?_; rintro e w' ⟨rfl, hg⟩)
  go_ret
  exact ⟨rfl, hg⟩

set_option maxHeartbeats 400000 in
theorem z7_yes (a0 : Bool) (a1 a2 a3 : ByteArray) (a4 a5 : Int) (w : World) (h : a1.size + a2.size + a3.size ≤ 1048576) :
    Calls Try.prog 7 #[.bool a0, .string a1, .string a2, .string a3, .int .i64 a4, .int .i64 a5] w fun e w' => e = .returned (.bool true) ∧ w' = w := by
  go_enter Try.func7, Try.ntmps7
  go_wp2
  go_ret
  exact ⟨rfl, rfl⟩
set_option maxHeartbeats 400000 in
theorem z7_no (a0 : Bool) (a1 a2 a3 : ByteArray) (a4 a5 : Int) (w : World) (w1 : a1.size ≤ maxLen) (w2 : a2.size ≤ maxLen) (w3 : a3.size ≤ maxLen) (h : ¬ a1.size + a2.size + a3.size ≤ 1048576) :
    Calls Try.prog 7 #[.bool a0, .string a1, .string a2, .string a3, .int .i64 a4, .int .i64 a5] w fun e w' => e = .returned (.bool false) ∧ w' = w := by
  unfold maxLen at w1 w2 w3
  go_enter Try.func7, Try.ntmps7
  go_wp2
  all_goals (go_ret; exact ⟨rfl, rfl⟩)

set_option maxHeartbeats 400000 in
theorem walk_no (a0 : Bool) (a1 a2 a3 : ByteArray) (a4 a5 : Int) (w : World) (w1 : a1.size ≤ maxLen) (w2 : a2.size ≤ maxLen) (w3 : a3.size ≤ maxLen) (h : ¬ a1.size + a2.size + a3.size ≤ 1048576) :
    Calls Try.prog 3 #[.bool a0, .string a1, .string a2, .string a3, .int .i64 a4, .int .i64 a5] w fun e w' => e = .returned (.bool true) ∧ Grown w w' := by
  go_enter Try.func3, Try.ntmps3
  go_wp2_with (go_at_call 7; refine (z7_no _ _ _ _ _ _ _ w1 w2 w3 h).mono ?_; rintro e w' ⟨rfl, rfl⟩)
  go_ret
  exact ⟨rfl, Grown.refl _⟩


theorem app_len {c s : ByteArray} (hc : c.size ≤ 2) (h : s.size ≤ 1048576) : (c ++ s).size ≤ maxLen := by
  unfold maxLen
  rw [ByteArray.size_append]
  omega
theorem sc8_quote (word : Bool) (s ue : ByteArray) (st en : Int) (w : World) (h : s.size ≤ 1048576) :
    Calls Try.prog 8 #[.bool word, .string (⟨#[39]⟩ ++ s), .string ue, .int .i64 st, .int .i64 en] w fun e w' => e = .returned (.bool (!word)) ∧ Grown w w' := by
  have := sc8 word (⟨#[39]⟩ ++ s) ue st en w (app_len (by decide) h)
  rwa [sc_quote] at this
theorem sc8_upper (word : Bool) (s ue : ByteArray) (st en : Int) (w : World) (h : s.size ≤ 1048576) :
    Calls Try.prog 8 #[.bool word, .string (⟨#[69, 39]⟩ ++ s), .string ue, .int .i64 st, .int .i64 en] w fun e w' => e = .returned (.bool (!word)) ∧ Grown w w' := by
  have := sc8 word (⟨#[69, 39]⟩ ++ s) ue st en w (app_len (by decide) h)
  rwa [sc_upper] at this
theorem sc8_lower (word : Bool) (s ue : ByteArray) (st en : Int) (w : World) (h : s.size ≤ 1048576) :
    Calls Try.prog 8 #[.bool word, .string (⟨#[101, 39]⟩ ++ s), .string ue, .int .i64 st, .int .i64 en] w fun e w' => e = .returned (.bool (!word)) ∧ Grown w w' := by
  have := sc8 word (⟨#[101, 39]⟩ ++ s) ue st en w (app_len (by decide) h)
  rwa [sc_lower] at this
theorem sc8_whole (word : Bool) (t s ue : ByteArray) (st en : Int) (w : World) (h : t.size + s.size ≤ 1048576) (h2 : 2 ≤ t.size) :
    Calls Try.prog 8 #[.bool word, .string (t ++ s), .string ue, .int .i64 st, .int .i64 en] w fun e w' => e = .returned (.bool (scB word (t.extract 0 2))) ∧ Grown w w' := by
  have := sc8 word (t ++ s) ue st en w (by unfold maxLen; simp [ByteArray.size_append]; omega)
  rwa [sc_two word t s h2] at this
end Go.Proofs.Qxb6618616a.isc
