/-
  THE WALKS that only read: ZZaddState, zzSame (at equal bytes), zzCountNL, zzBytes_..
-/
import Derived.Test.Qxb6618560aAdd
import Derived.Deep.QuietTactic
import Derived.BigQuiet
namespace Go.Proofs.Qxb6618560a
open Go.RowKit Go.Conc

set_option maxHeartbeats 400000 in
theorem state8 (W w : World) (lb base wk cd sp : Nat) (v : Value) (n : Nat) (xs : List Value) (k : Nat) (A : Int)
    (hp : LogPart W w lb base wk cd sp v k A) (hown : w.ownsRow base 5 1 v n xs) :
    Calls Try.prog 8 #[.pointer (some ⟨lb, 0, none⟩)] w fun e w' => e = .returned (.tuple #[v, .int .i64 k, .int .u64 A, .int .u64 0, .bool false, .int .i64 0]) ∧ ∃ q, w' = w.drewN q := by
  obtain ⟨ao, cap, rfl⟩ := own_shape hown
  have c5 : w.cell? ⟨lb, 5, none⟩ = some (.slice ao n cap) := hp.cell 5
  have c6 : w.cell? ⟨lb, 6, none⟩ = some (.int .i64 k) := hp.cell 6
  have c7 : w.cell? ⟨lb, 7, none⟩ = some (.int .u64 A) := hp.cell 7
  have c9 : w.cell? ⟨lb, 9, none⟩ = some (.int .u64 0) := hp.cell 9
  have c12 : w.cell? ⟨lb, 12, none⟩ = some (.bool false) := hp.cell 12
  have c13 : w.cell? ⟨lb, 13, none⟩ = some (.chan (some wk)) := hp.cell 13
  have hlen : ∀ ty q, (Builtin.len_ #[33] ty #[.chan (some wk)]).run Try.prog (w.drewN q) = .ok (.int .i64 0) (w.drewN q) := fun ty q => run_len_chan (P := Try.prog) (w := w.drewN q) 33 ty Try.underlying33 hp.wake
  clear hp hown
  go_enter Try.func8, Try.ntmps8
  go_wp2_with fail
  go_quiet (fail)
  go_wp2_with fail
  exact bodyPost_ret (v := .tuple #[.slice ao n cap, .int .i64 k, .int .u64 A, .int .u64 0, .bool false, .int .i64 0]) (by simp [results, Try.results8, go_sem]) rfl ⟨rfl, _, rfl⟩

set_option maxHeartbeats 400000 in
theorem same9 (b off b2 off2 n c c2 : Nat) (f : Nat → Int) (w : World) (hn : n ≤ 1048576) (h1 : ∀ j, j < n → w.cell? ⟨b, off + j, none⟩ = some (.int .u8 (f j))) (h2 : ∀ j, j < n → w.cell? ⟨b2, off2 + j, none⟩ = some (.int .u8 (f j))) :
    Calls Try.prog 9 #[.slice (some ⟨b, off, none⟩) n c, .slice (some ⟨b2, off2, none⟩) n c2] w fun e w' => e = .returned (.bool true) ∧ ∃ q, w' = w.drewN q := by
  go_enter Try.func9, Try.ntmps9
  go_wp2_with fail
  go_loopw [5] (fun i wr => ∃ k q : Nat, k ≤ n ∧ i = .int .i64 k ∧ wr = w.drewN q) (fun i _ => n - (intOf i).toNat)
  case atStart => exact ⟨0, 0, Nat.zero_le _, rfl, rfl⟩
  case round =>
    obtain ⟨k, q, hk, rfl, rfl⟩ := hrel
    by_cases hlt : k < n
    · have g1 := h1 k hlt
      have g2 := h2 k hlt
      have hz : (k : Int) < (n : Int) := by omega
      clear h1 h2
      go_wp2_with fail
      go_quiet (fail)
      go_wp2_with fail
      go_roundw
      case rel => exact ⟨k + 1, _, by omega, by go_num, rfl⟩
      case measure => simp [intOf]; omega
    · clear h1 h2
      go_wp2_with fail
      go_ret
      exact ⟨rfl, _, rfl⟩

set_option maxHeartbeats 400000 in
theorem same9_zero (a a2 : Option Addr) (c c2 : Nat) (w : World) :
    Calls Try.prog 9 #[.slice a 0 c, .slice a2 0 c2] w fun e w' => e = .returned (.bool true) ∧ ∃ q, w' = w.drewN q := by
  go_enter Try.func9, Try.ntmps9
  go_wp2_with fail
  go_loop [5] (fun i => i = .int .i64 0) (fun _ => 0)
  case atStart => rfl
  case round =>
    subst hrel
    go_wp2_with fail
    go_ret
    exact ⟨rfl, 0, rfl⟩

/-! ### zzCountNL -/
def cntNL (l : List Int) : Nat := (l.filter fun z => z == 10).length
theorem cntNL_le (l : List Int) : cntNL l ≤ l.length := List.length_filter_le _ _
theorem cntNL_snoc (l : List Int) (z : Int) : cntNL (l ++ [z]) = cntNL l + if (z == 10) = true then 1 else 0 := by
  unfold cntNL
  rw [List.filter_append, List.length_append]
  by_cases h : (z == 10) = true <;> simp [h]
theorem cntNL_succ (l : List Int) (k : Nat) (h : k < l.length) : cntNL (l.take (k + 1)) = cntNL (l.take k) + if (l.getD k 0 == 10) = true then 1 else 0 := by
  rw [List.take_succ_eq_append_getElem h, cntNL_snoc]
  simp [List.getD, h]
theorem ret_int {k : IntKind} {a b : Int} (h : a = b) : Ending.returned (.int k a) = .returned (.int k b) := by rw [h]

set_option maxHeartbeats 400000 in
theorem count5 (b off c : Nat) (l : List Int) (w : World) (hn : l.length ≤ 1048576) (h1 : ∀ j, j < l.length → w.cell? ⟨b, off + j, none⟩ = some (.int .u8 (l.getD j 0))) :
    Calls Try.prog 5 #[.slice (some ⟨b, off, none⟩) l.length c] w fun e w' => e = .returned (.int .i64 (cntNL l)) ∧ w' = w := by
  go_enter Try.func5, Try.ntmps5
  go_wp2_with fail
  go_loop [3, 4] (fun n i => ∃ k : Nat, k ≤ l.length ∧ i = .int .i64 k ∧ n = .int .i64 (cntNL (l.take k))) (fun _ i => l.length - (intOf i).toNat)
  case atStart => exact ⟨0, Nat.zero_le _, rfl, rfl⟩
  case round =>
    obtain ⟨k, hk, rfl, rfl⟩ := hrel
    by_cases hlt : k < l.length
    · have g1 := h1 k hlt
      have hs : Hid _ := cntNL_succ l k hlt
      have hd := cntNL_le (l.take k)
      have hd2 : (l.take k).length ≤ k := List.length_take_le _ _
      obtain ⟨z, hz⟩ : ∃ z, l.getD k 0 = z := ⟨_, rfl⟩
      obtain ⟨C, hC⟩ : ∃ C, cntNL (l.take k) = C := ⟨_, rfl⟩
      rw [hz] at g1
      rw [hC] at hd ⊢
      have HZ : Hid _ := hz
      have HC : Hid _ := hC
      clear h1 hz hC
      cases hb : (z == 10)
      · go_wp2_with fail
        go_round
        case rel => exact ⟨k + 1, by omega, by go_num, by have := hs.out; rw [HZ.out, HC.out, hb] at this; rw [this]; rfl⟩
        case measure => simp [intOf]; omega
      · go_wp2_with fail
        go_round
        case rel => exact ⟨k + 1, by omega, by go_num, by have := hs.out; rw [HZ.out, HC.out, hb] at this; rw [this]; rfl⟩
        case measure => simp [intOf]; omega
    · clear h1
      have he : Hid (cntNL (l.take k) = cntNL l) := by rw [List.take_of_length_le (by omega)]; exact rfl
      go_wp2_with fail
      go_ret
      exact ⟨ret_int (by rw [he.out]), rfl⟩
set_option maxHeartbeats 400000 in
theorem count5_zero (a : Option Addr) (c : Nat) (w : World) :
    Calls Try.prog 5 #[.slice a 0 c] w fun e w' => e = .returned (.int .i64 0) ∧ w' = w := by
  go_enter Try.func5, Try.ntmps5
  go_wp2_with fail
  go_loop [3, 4] (fun n i => i = .int .i64 0 ∧ n = .int .i64 0) (fun _ _ => 0)
  case atStart => exact ⟨rfl, rfl⟩
  case round =>
    obtain ⟨rfl, rfl⟩ := hrel
    go_wp2_with fail
    go_ret
    exact ⟨rfl, rfl⟩

/-! ### zzBytes_..: it answers some bool -/
def SomeBool (e : Ending) : Prop := ∃ bb, e = .returned (.bool bb)
theorem sb_mk (b : Bool) : SomeBool (.returned (.bool b)) := ⟨b, rfl⟩
set_option maxHeartbeats 400000 in
theorem zb4 (st : Int) (b off L C : Nat) (ra : Nat → Option Addr) (rn rc : Nat → Nat) (w : World) (hc : ∀ j, j < L → w.cell? ⟨b, off + j, none⟩ = some (.slice (ra j) (rn j) (rc j))) :
    Calls Try.prog 4 #[.int .u64 st, .slice (some ⟨b, off, none⟩) L C] w fun e w' => SomeBool e ∧ w' = w := by
  by_cases hL : L ≤ 1048576
  · go_enter Try.func4, Try.ntmps4
    go_wp2_with fail
    go_loop [5, 6] (fun n i => ∃ (z : Int) (k : Nat), 0 ≤ z ∧ z ≤ 1048576 ∧ k ≤ L ∧ i = .int .i64 k ∧ n = .int .i64 z) (fun _ i => L - (intOf i).toNat)
    case atStart => exact ⟨L, 0, by omega, by omega, Nat.zero_le _, rfl, rfl⟩
    case round =>
      obtain ⟨z, k, hz0, hz1, hk, rfl, rfl⟩ := hrel
      by_cases hlt : k < L
      · have g1 := hc k hlt
        obtain ⟨r, hr⟩ : ∃ r, rn k = r := ⟨_, rfl⟩
        rw [hr] at g1
        clear hc hr
        by_cases h1 : r ≤ 1048576
        · by_cases h2 : z + r ≤ 1048576
          · go_wp2_with fail
            go_round
            case rel => exact ⟨z + r, k + 1, by omega, by omega, by omega, by go_num, rfl⟩
            case measure => simp [intOf]; omega
          · go_wp2_with fail
            go_ret
            exact ⟨sb_mk _, rfl⟩
        · go_wp2_with fail
          go_ret
          exact ⟨sb_mk _, rfl⟩
      · clear hc
        go_wp2_with fail
        go_ret
        exact ⟨sb_mk _, rfl⟩
  · clear hc
    go_enter Try.func4, Try.ntmps4
    go_wp2_with fail
    go_ret
    exact ⟨sb_mk _, rfl⟩
set_option maxHeartbeats 400000 in
theorem zb4_zero (st : Int) (a : Option Addr) (C : Nat) (w : World) :
    Calls Try.prog 4 #[.int .u64 st, .slice a 0 C] w fun e w' => SomeBool e ∧ w' = w := by
  go_enter Try.func4, Try.ntmps4
  go_wp2_with fail
  go_loop [5, 6] (fun n i => i = .int .i64 0 ∧ n = .int .i64 0) (fun _ _ => 0)
  case atStart => exact ⟨rfl, rfl⟩
  case round =>
    obtain ⟨rfl, rfl⟩ := hrel
    go_wp2_with fail
    go_ret
    exact ⟨sb_mk _, rfl⟩
end Go.Proofs.Qxb6618560a
