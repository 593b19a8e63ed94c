/-
  THE WALKS under both statements of this seat: isLogHost, ZZisLogHost, zzGraphicASCII, the two zzBytes_..: each returns a plain function of its argument (Qxb6618505aDoorPlain.lean).
-/
import Derived.Test.Qxb6618505aDoorRows
import Derived.Test.Qxb6618505aDoorShelf
import Derived.Test.Qxb6618505aDoorPlain
import Derived.WalkKit
import Derived.WalkSpells
import Derived.WalkLawsBesides
import Derived.Lib.Strings
namespace Go.Proofs.Qxb6618505aDoor
open Go.RowKit

/-! ### the bridge from the shelf's words to 'Plain.hasSp' -/
theorem get_list (s : ByteArray) (i : Nat) : s.get! i = s.data.toList.getD i 0 := by
  cases s with
  | mk d =>
    simp only [ByteArray.get!, List.getD_eq_getElem?_getD, Array.getElem?_toList, Array.getElem!_eq_getD, Array.getD_eq_getD_getElem?]
    rfl
theorem dec_at (s : ByteArray) (pos : Nat) : Utf8.decode s pos = Plain.dec (s.data.toList.drop pos) := by
  rw [Lib.decode_at]
  unfold Plain.dec
  have hs : s.size = s.data.toList.length := by simp
  simp only [get_list, hs, List.length_drop, List.getD_eq_getElem?_getD, List.getElem?_drop, Nat.add_zero]
theorem idx_at (s : ByteArray) : ∀ (f pos : Nat), decide (0 ≤ Lib.idxFuncFrom Lib.isSpaceR true s f pos) = Plain.hasSpF f (s.data.toList.drop pos)
  | 0, pos => by simp [Lib.idxFuncFrom, Plain.hasSpF]
  | f + 1, pos => by
    have hs : s.size = s.data.toList.length := by simp
    unfold Lib.idxFuncFrom Plain.hasSpF
    by_cases hp : pos < s.size
    · have hne : s.data.toList.drop pos ≠ [] := by
        intro h
        have := congrArg List.length h
        rw [List.length_drop, List.length_nil] at this
        omega
      rw [if_pos hp, if_neg hne, dec_at, List.drop_drop]
      rw [← idx_at s f (pos + (Plain.dec (s.data.toList.drop pos)).2)]
      cases hsp : Lib.isSpaceR (Plain.dec (s.data.toList.drop pos)).1
      · simp
      · simp
    · have he : s.data.toList.drop pos = [] := List.drop_eq_nil_of_le (by omega)
      rw [if_neg hp, if_pos he]
      rfl
theorem idx_hasSp (s : ByteArray) : decide (0 ≤ Lib.idxFunc Lib.isSpaceR true s) = Plain.hasSp s.data.toList := by
  have hs : s.size = s.data.toList.length := by simp
  unfold Lib.idxFunc Plain.hasSp
  rw [idx_at, List.drop_zero, hs]

/-! ### unicode.IsSpace pays -/
theorem isSpace_pays (w : World) (hW : Lib.WhiteTab 0 w) : PredAtRunes Tryd.prog 11 #[] Lib.isSpaceR w := fun W x hx hb => by
  have c := Tryd.unicode_IsSpace_any_d (x : Int) W (by omega) (by omega) (WhiteTab_below hW hb)
  rw [Lib.isSpaceZ_nat] at c
  exact c
theorem contains10 (s : ByteArray) (w : World) (hW : Lib.WhiteTab 0 w) :
    Calls Tryd.prog 10 #[.string s, .func (.func 11) #[] #[]] w fun e w' => e = .returned (.bool (Plain.hasSp s.data.toList)) ∧ Below w.heap.size w w' := by
  have c := Tryd.strings_ContainsFunc_runes 11 #[] (enters_of Tryd.func11 (by kernel_rfl) rfl) Lib.isSpaceR s w (isSpace_pays w hW)
  rwa [idx_hasSp] at c

set_option maxHeartbeats 400000 in
theorem host9 (s : ByteArray) (w : World) (hW : Lib.WhiteTab 0 w) :
    Calls Tryd.prog 9 #[.string s] w fun e w' => e = .returned (.bool (Plain.host s.data.toList)) ∧ Below w.heap.size w w' := by
  have c := contains10 s w hW
  cases he : s.data.toList.isEmpty
  · cases hb : Plain.hasSp s.data.toList
    · rw [hb] at c
      have e : Plain.host s.data.toList = true := by simp only [Plain.host, he, hb]; rfl
      rw [e]; clear e hb
      have he' : s.toList.isEmpty = false := by rw [Lib.toList_data]; exact he
      go_enter Tryd.func9, Tryd.ntmps9
      go_wp2_with (go_at_call 10; refine c.mono ?_; rintro e w' ⟨rfl, hb⟩)
      go_ret
      exact ⟨rfl, hb⟩
    · rw [hb] at c
      have e : Plain.host s.data.toList = false := by simp only [Plain.host, he, hb]; rfl
      rw [e]; clear e hb
      have he' : s.toList.isEmpty = false := by rw [Lib.toList_data]; exact he
      go_enter Tryd.func9, Tryd.ntmps9
      go_wp2_with (go_at_call 10; refine c.mono ?_; rintro e w' ⟨rfl, hb⟩)
      go_ret
      exact ⟨rfl, hb⟩
  · have e : Plain.host s.data.toList = false := by simp only [Plain.host, he]; rfl
    rw [e]; clear e c
    have he' : s.toList.isEmpty = true := by rw [Lib.toList_data]; exact he
    go_enter Tryd.func9, Tryd.ntmps9
    go_wp2_with fail
    go_ret
    exact ⟨rfl, Below.refl _ _⟩
set_option maxHeartbeats 400000 in
theorem host6 (s : ByteArray) (w : World) (hW : Lib.WhiteTab 0 w) :
    Calls Tryd.prog 6 #[.string s] w fun e w' => e = .returned (.bool (Plain.host s.data.toList)) ∧ Below w.heap.size w w' := by
  have c := host9 s w hW
  go_enter Tryd.func6, Tryd.ntmps6
  go_wp2_with (go_at_call 9; refine c.mono ?_; rintro e w' ⟨rfl, hb⟩)
  go_ret
  exact ⟨rfl, hb⟩

theorem ret_bool {a b : Bool} (h : a = b) : Ending.returned (.bool b) = .returned (.bool a) := by rw [h]
/-! ### zzGraphicASCII -/
def upTo (l : List UInt8) (k : Nat) : Prop := ∀ c ∈ l.take k, 33 ≤ c.toNat ∧ c.toNat ≤ 126
theorem upTo_succ {s : ByteArray} {k : Nat} (h : upTo s.data.toList k) (hk : k < s.size) (h1 : ¬ (s[k].toNat : Int) < 33) (h2 : ¬ 126 < (s[k].toNat : Int)) : upTo s.data.toList (k + 1) := by
  intro c hc
  rw [List.take_succ_eq_append_getElem (by simpa using hk)] at hc
  rcases List.mem_append.1 hc with hc | hc
  · exact h c hc
  · have : c = s[k] := List.mem_singleton.1 hc
    subst this
    omega
theorem graphic_no {s : ByteArray} {k : Nat} (hk : k < s.size) (h : (s[k].toNat : Int) < 33 ∨ 126 < (s[k].toNat : Int)) : Plain.graphic s.data.toList = false := by
  rw [Bool.eq_false_iff]
  intro hg
  simp only [Plain.graphic, Bool.and_eq_true, List.all_eq_true, decide_eq_true_eq] at hg
  have := hg.2 s[k] (by have : s.data.toList[k]'(by simpa using hk) = s[k] := rfl
                        rw [← this]; exact List.getElem_mem _)
  omega
theorem graphic_yes {s : ByteArray} (he : s.data.toList.isEmpty = false) (h : upTo s.data.toList s.size) : Plain.graphic s.data.toList = true := by
  simp only [Plain.graphic, Bool.and_eq_true, List.all_eq_true, decide_eq_true_eq]
  refine ⟨by rw [he]; rfl, fun c hc => h c ?_⟩
  rw [List.take_of_length_le (by simp)]
  exact hc

set_option maxHeartbeats 400000 in
theorem graphic7 (s : ByteArray) (w : World) (hs : s.size ≤ 1048576) :
    Calls Tryd.prog 7 #[.string s] w fun e w' => e = .returned (.bool (Plain.graphic s.data.toList)) ∧ w' = w := by
  cases he : s.data.toList.isEmpty
  · have he' : s.toList.isEmpty = false := by rw [Lib.toList_data]; exact he
    have HE : Hid (s.data.toList.isEmpty = false) := he
    clear he
    go_enter Tryd.func7, Tryd.ntmps7
    go_wp2
    go_loop [3] (fun i => ∃ k : Nat, k ≤ s.size ∧ i = .int .i64 k ∧ upTo s.data.toList k) (fun i => s.size - (intOf i).toNat)
    case atStart => exact ⟨0, Nat.zero_le _, rfl, fun c hc => by simp at hc⟩
    case round =>
      obtain ⟨k, hk, rfl, hu⟩ := hrel
      have HU : Hid (upTo s.data.toList k) := hu
      clear hu
      by_cases hlt : k < s.size
      · by_cases h1 : (s[k].toNat : Int) < 33
        · have G : Hid _ := graphic_no hlt (Or.inl h1)
          go_wp2
          go_ret
          exact ⟨ret_bool G.out, rfl⟩
        · by_cases h2 : 126 < (s[k].toNat : Int)
          · have G : Hid _ := graphic_no hlt (Or.inr h2)
            go_wp2
            go_ret
            exact ⟨ret_bool G.out, rfl⟩
          · have G : Hid _ := upTo_succ HU.out hlt h1 h2
            go_wp2
            go_round
            case rel => exact ⟨k + 1, by omega, by go_num, G.out⟩
            case measure => simp [intOf]; omega
      · obtain rfl : k = s.size := by omega
        have G : Hid _ := graphic_yes HE.out HU.out
        go_wp2
        go_ret
        exact ⟨ret_bool G.out, rfl⟩
  · have e : Plain.graphic s.data.toList = false := by simp only [Plain.graphic, he]; rfl
    rw [e]; clear e
    have he' : s.toList.isEmpty = true := by rw [Lib.toList_data]; exact he
    go_enter Tryd.func7, Tryd.ntmps7
    go_wp2
    go_ret
    exact ⟨rfl, rfl⟩

set_option maxHeartbeats 400000 in
theorem z5_yes (s : ByteArray) (k : Int) (w : World) (hs : s.size ≤ 1048576) :
    Calls Tryd.prog 5 #[.string s, .int .i64 k] w fun e w' => e = .returned (.bool true) ∧ w' = w := by
  go_enter Tryd.func5, Tryd.ntmps5
  go_wp2
  go_ret
  exact ⟨rfl, rfl⟩
set_option maxHeartbeats 400000 in
theorem z5_no (s : ByteArray) (k : Int) (w : World) (hs : ¬ s.size ≤ 1048576) :
    Calls Tryd.prog 5 #[.string s, .int .i64 k] w fun e w' => e = .returned (.bool false) ∧ w' = w := by
  go_enter Tryd.func5, Tryd.ntmps5
  go_wp2
  go_ret
  exact ⟨rfl, rfl⟩
set_option maxHeartbeats 400000 in
theorem z8_yes (s : ByteArray) (k : Int) (w : World) (hs : s.size ≤ 1048576) :
    Calls Tryd.prog 8 #[.string s, .int .i64 k] w fun e w' => e = .returned (.bool true) ∧ w' = w := by
  go_enter Tryd.func8, Tryd.ntmps8
  go_wp2
  go_ret
  exact ⟨rfl, rfl⟩
set_option maxHeartbeats 400000 in
theorem z8_no (s : ByteArray) (k : Int) (w : World) (hs : ¬ s.size ≤ 1048576) :
    Calls Tryd.prog 8 #[.string s, .int .i64 k] w fun e w' => e = .returned (.bool false) ∧ w' = w := by
  go_enter Tryd.func8, Tryd.ntmps8
  go_wp2
  go_ret
  exact ⟨rfl, rfl⟩
end Go.Proofs.Qxb6618505aDoor
