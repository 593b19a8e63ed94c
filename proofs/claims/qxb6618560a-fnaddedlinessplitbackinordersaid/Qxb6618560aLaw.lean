/-
  THE LAW's WALK: FnAddedLinesSplitBackInOrder returns true: at lines that hold at least one slice ('law_big'), and at none ('law_zero').
-/
import Derived.Test.Qxb6618560aLines
namespace Go.Proofs.Qxb6618560a
open Go.RowKit Go.Conc

theorem slice_mid (g N cap fr i : Nat) (h1 : fr ≤ i) (h2 : i ≤ cap) (h3 : ¬ cap = fr) (w : World) :
    (Instr.slice 25 (.slice (some ⟨g, 0, none⟩) N cap) (some (.int .i64 fr)) (some (.int .i64 i)) none).run Try.prog w = .ok (.slice (some ⟨g, fr, none⟩) (i - fr) (cap - fr)) w := by
  have hs : (sizeOf (Try.prog.elem 25)).run Try.prog w = .ok 1 w := by kernel_rfl
  rw [run_slice_lh w 25 (some ⟨g, 0, none⟩) N cap (by kernel_rfl) .i64 .i64 fr i (by omega) (by omega) (by omega), hs]
  simp [Result.andThen, sliced, h3, Addr.add_lit]
theorem wrap_succ (st : Int) (k : Nat) : IntKind.u64.wrap (IntKind.u64.wrap (st + k) + 1) = IntKind.u64.wrap (st + ((k + 1 : Nat) : Int)) := by
  simp only [IntKind.wrap, IntKind.signed, IntKind.bits]
  simp
  omega

set_option maxRecDepth 20000 in
set_option maxHeartbeats 1000000 in
theorem law_big (st : Int) (b off L C : Nat) (ra : Nat → Option Addr) (rn rc : Nat → Nat) (row : Nat → List Int) (w : World) (hL0 : 0 < L) (hst : IntKind.u64.wrap st = st)
    (hc : ∀ j, j < L → w.cell? ⟨b, off + j, none⟩ = some (.slice (ra j) (rn j) (rc j)))
    (hr : ∀ j, j < L → LineAt w (.slice (ra j) (rn j) (rc j)) (u8s (row j)))
    (hn : ∀ j, j < L → rn j = (row j).length) :
    Calls Try.prog 3 #[.int .u64 st, .slice (some ⟨b, off, none⟩) L C] w fun e w' => e = .returned (.bool true) ∧ Below w.heap.size w w' := by
  have zb := zb4 st b off L C ra rn rc w hc
  have HC : Hid (∀ j, j < L → w.cell? ⟨b, off + j, none⟩ = some (.slice (ra j) (rn j) (rc j))) := hc
  have HR : Hid (∀ j, j < L → LineAt w (.slice (ra j) (rn j) (rc j)) (u8s (row j))) := hr
  have HN : Hid (∀ j, j < L → rn j = (row j).length) := hn
  have HST : Hid (IntKind.u64.wrap st = st) := hst
  clear hc hr hn hst
  go_enter Try.func3, Try.ntmps3
  go_wp2_with fail
  refine zb.mono ?_
  rintro e w' ⟨⟨bb, rfl⟩, rfl⟩
  clear zb
  cases bb
  · go_wp2_with fail
    go_ret
    exact ⟨rfl, Below.refl _ _⟩
  · by_cases hL : L ≤ 65536
    · go_wp2_with fail
      go_loop [5, 6] (fun t i => ∃ k : Nat, k ≤ L ∧ i = .int .i64 k ∧ t = .int .i64 (Plain.tot row k) ∧ Plain.tot row k ≤ 1048576) (fun _ i => L - (intOf i).toNat)
      case atStart => exact ⟨0, Nat.zero_le _, rfl, rfl, Nat.zero_le _⟩
      case round =>
        obtain ⟨k, hk, rfl, rfl, ht⟩ := hrel
        by_cases hlt : k < L
        · have g1 := HC.out k hlt
          have e1 := HN.out k hlt
          have e2 : Plain.tot row (k + 1) = Plain.tot row k + ((row k).length + 24) := rfl
          rw [e1] at g1
          obtain ⟨r, hr⟩ : ∃ r, (row k).length = r := ⟨_, rfl⟩
          obtain ⟨T, hT⟩ : ∃ T, Plain.tot row k = T := ⟨_, rfl⟩
          rw [hr] at g1 e2
          rw [hT] at ht e2 ⊢
          have E2 : Hid _ := e2
          clear e1 e2 hr hT
          by_cases h1 : r ≤ 1048576
          · by_cases h2 : T + (r + 24) ≤ 1048576
            · have q2 : decide ((1048576 : Int) < (T : Int) + ((r : Int) + 24)) = false := by simp; omega
              have H2 : Hid _ := h2
              clear h2
              go_wp2_with fail
              go_round
              case rel => exact ⟨k + 1, by omega, by go_num, by rw [E2.out]; go_num, by rw [E2.out]; exact H2.out⟩
              case measure => simp [intOf]; omega
            · have q2 : decide ((1048576 : Int) < (T : Int) + ((r : Int) + 24)) = true := by simp; omega
              clear h2
              go_wp2_with fail
              go_ret
              exact ⟨rfl, Below.refl _ _⟩
          · go_wp2_with fail
            go_ret
            exact ⟨rfl, Below.refl _ _⟩
        · obtain rfl : L = k := by omega
          have HT : Hid (Plain.tot row L ≤ 1048576) := ht
          have hlen : Hid (∀ j, j < L → (row j).length ≤ 1048552) := fun j hj => by
            have h1 := Plain.tot_mono (row := row) (show j + 1 ≤ L from hj)
            have h2 : Plain.tot row (j + 1) = Plain.tot row j + ((row j).length + 24) := rfl
            have := HT.out
            omega
          clear ht
          go_wp2_with fail
          go_loop [7] (fun i => ∃ k : Nat, k ≤ L ∧ i = .int .i64 k ∧ Hid (∀ j, j < k → cntNL (row j) = 0)) (fun i => L - (intOf i).toNat)
          case atStart => exact ⟨0, Nat.zero_le _, rfl, fun j hj => by omega⟩
          case round =>
            obtain ⟨k, hk, rfl, hnl⟩ := hrel
            by_cases hlt : k < L
            · have g1 := HC.out k hlt
              have hl := hlen.out k hlt
              have cc := count_line (HR.out k hlt) (Below.refl _ _) (by omega)
              have hcl := cntNL_le (row k)
              obtain ⟨n, hn⟩ : ∃ n, cntNL (row k) = n := ⟨_, rfl⟩
              rw [hn] at cc hcl
              have HNN : Hid _ := hn
              clear hn
              cases n with
              | zero =>
                go_wp2_with (go_at_call 5; refine cc.mono ?_; rintro e w1 ⟨rfl, rfl⟩)
                go_round
                case rel => exact ⟨k + 1, by omega, by go_num, fun j hj => by
                  rcases Nat.lt_or_ge j k with h | h
                  · exact hnl j h
                  · have : j = k := by omega
                    subst this; exact HNN.out⟩
                case measure => simp [intOf]; omega
              | succ n =>
                go_wp2_with (go_at_call 5; refine cc.mono ?_; rintro e w1 ⟨rfl, rfl⟩)
                go_ret
                exact ⟨rfl, Below.refl _ _⟩
            · obtain rfl : L = k := by omega
              go_wp2_with fail
              refine (new6 _ _).mono ?_
              rintro e w1 ⟨lb, base, wk, cd, sp, rfl, hp⟩
              have HP : Hid (LogPart w' w1 lb base wk cd sp (.slice none 0 0) 0 st) := hp
              clear hp
              go_wp2_with fail
              go_loopw [9] (fun i wr => ∃ (k : Nat) (v : Value), k ≤ L ∧ i = .int .i64 k ∧ Hid (LogPart w' wr lb base wk cd sp v k (IntKind.u64.wrap (st + k))) ∧ Hid (wr.ownsRow base 5 1 v (Plain.offs row k) (u8s (Plain.bts row k)))) (fun i _ => L - (intOf i).toNat)
              case atStart =>
                refine ⟨0, _, Nat.zero_le _, rfl, ?_, World.ownsRow_nil _ _ _ _⟩
                have := HP.out
                have e : IntKind.u64.wrap (st + ((0 : Nat) : Int)) = st := by
                  rw [show st + ((0 : Nat) : Int) = st from by simp]; exact HST.out
                rw [e]
                exact this
              case round =>
                obtain ⟨k, v, hk, rfl, hp, ho⟩ := hrel
                by_cases hlt : k < L
                · have g1 := later_cell hp.out.below (HC.out k hlt)
                  have hsum : Plain.offs row k + (u8s (row k)).length ≤ 1048574 := by
                    have h1 := Plain.offs_tot (row := row) (k + 1)
                    have h2 := Plain.offs_succ (row := row) k
                    have h3 := Plain.tot_mono (row := row) (show k + 1 ≤ L from hlt)
                    have := HT.out
                    rw [u8s_len]
                    omega
                  have cc := add7 w' wr lb base wk cd sp v _ _ k _ _ _ hp.out ho.out (HR.out k hlt) hsum (by omega)
                  clear hsum
                  go_wp2_with (go_at_call 7; refine cc.mono ?_; rintro e w2 ⟨rfl, v', hp', ho'⟩)
                  go_roundw
                  case rel =>
                    refine ⟨k + 1, v', by omega, by go_num, ?_, ?_⟩
                    · have e : IntKind.u64.wrap (st + ((k + 1 : Nat) : Int)) = IntKind.u64.wrap (IntKind.u64.wrap (st + k) + 1) := (wrap_succ st k).symm
                      rw [e]
                      exact hp'
                    · rw [Plain.offs_succ]
                      have e : u8s (Plain.bts row (k + 1)) = u8s (Plain.bts row k) ++ (u8s (row k) ++ [.int .u8 10]) := by simp [u8s, Plain.bts]
                      rw [e]
                      rw [u8s_len] at ho'
                      exact ho'
                  case measure => simp [intOf]; omega
                · obtain rfl : L = k := by omega
                  have ss := state8 w' wr lb base wk cd sp v _ _ L _ hp.out ho.out
                  go_wp2_with fail
                  refine ss.mono ?_
                  rintro e w3 ⟨rfl, q, rfl⟩
                  clear ss
                  obtain ⟨hlen0, hown⟩ := ho.out
                  have hn0 : 0 < Plain.offs row L := by
                    have h1 := Plain.offs_mono (row := row) (show 1 ≤ L from hL0)
                    have h2 : Plain.offs row 1 = Plain.offs row 0 + (row 0).length + 1 := Plain.offs_succ (row := row) 0
                    omega
                  obtain ⟨g, cap, rfl, hcap⟩ : ∃ g cap, v = .slice (some ⟨g, 0, none⟩) (Plain.offs row L) cap ∧ Plain.offs row L ≤ cap := by
                    rcases hown with ⟨_, h0⟩ | ⟨g, cap, cur, hv, _, _, h, _⟩
                    · omega
                    · exact ⟨g, cap, hv, h⟩
                  have hN1 : Plain.offs row L ≤ 1048576 := by
                    have h1 := Plain.offs_tot (row := row) L
                    have := HT.out
                    omega
                  have hcells : Hid (∀ i, i < Plain.offs row L → wr.cell? ⟨g, i, none⟩ = some (.int .u8 ((Plain.bts row L).getD i 0))) := fun i hi => by
                    have h1 := World.ownsRow.cellAt ho.out i (by omega)
                    rw [h1]
                    exact u8s_at hi
                  have hbel : Hid (Below w'.heap.size w' wr) := hp.out.below
                  clear hlen0 hown hp ho HP
                  go_wp2_with fail
                  go_loopw [16, 17, 18] (fun kk ff ii wx => ∃ k i q : Nat, i ≤ Plain.offs row L ∧ ii = .int .i64 i ∧ kk = .int .i64 k ∧ ff = .int .i64 (Plain.offs row k) ∧ Hid (Plain.Here row L k i) ∧ wx = wr.drewN q) (fun _ _ ii _ => Plain.offs row L - (intOf ii).toNat)
                  case atStart => exact ⟨0, 0, _, Nat.zero_le _, rfl, rfl, rfl, Plain.here_start L, rfl⟩
                  case round =>
                    obtain ⟨k, i, q2, hi, rfl, rfl, rfl, hh, rfl⟩ := hrel
                    by_cases hlt : i < Plain.offs row L
                    · have hkL := Plain.here_lt hh.out hlt
                      have cz := hcells.out i hlt
                      have hfi : Plain.offs row k ≤ i := hh.out.2.1
                      by_cases hin : i < Plain.offs row k + (row k).length
                      · have hb := Plain.at_line (row := row) hkL hfi hin
                        have hz := Plain.no_nl (hnl.out k hkL) (j := i - Plain.offs row k) (by omega)
                        rw [← hb] at hz
                        obtain ⟨z, ez⟩ : ∃ z, (Plain.bts row L).getD i 0 = z := ⟨_, rfl⟩
                        rw [ez] at cz hz
                        clear hb ez
                        go_wp2_with fail
                        go_roundw
                        case rel => exact ⟨k, i + 1, _, by omega, by go_num, rfl, rfl, Plain.here_in hh.out hkL hin, rfl⟩
                        case measure => simp [intOf]; omega
                      · have he : i = Plain.offs row k + (row k).length := by have := hh.out.2.2.1 hkL; omega
                        have hb := Plain.at_end (row := row) hkL
                        rw [← he] at hb
                        rw [hb] at cz
                        have g1 := later_cell hbel.out (HC.out k hkL)
                        have hl := hlen.out k hkL
                        have e1 := HN.out k hkL
                        have gd : decide ((L : Int) ≤ (k : Int)) = false := by simp; omega
                        have cs : Hid (∀ q3, Calls Try.prog 9 #[.slice (some ⟨g, Plain.offs row k, none⟩) (row k).length (cap - Plain.offs row k), .slice (ra k) (rn k) (rc k)] (wr.drewN (q2 + q3)) fun e w'' => e = .returned (.bool true) ∧ ∃ n, w'' = wr.drewN (q2 + n)) := fun q3 => by
                          refine (same_line (HR.out k hkL) (below_drewN hbel.out (q2 + q3)) (by omega) g _ _ (fun j hj => ?_)).mono (fun e w'' ⟨he, q, hq⟩ => ⟨he, q3 + q, by rw [hq, World.drewN_drewN, Nat.add_assoc]⟩)
                          have h1 := hcells.out (Plain.offs row k + j) (by omega)
                          have h2 := Plain.at_line (row := row) hkL (i := Plain.offs row k + j) (by omega) (by omega)
                          rw [Nat.add_sub_cancel_left] at h2
                          rw [h2] at h1
                          exact h1
                        have hmi : i - Plain.offs row k = (row k).length := by omega
                        have hsl : ∀ ww, (Instr.slice 25 (.slice (some ⟨g, 0, none⟩) (Plain.offs row L) cap) (some (.int .i64 (Plain.offs row k))) (some (.int .i64 i)) none).run Try.prog ww = .ok (.slice (some ⟨g, Plain.offs row k, none⟩) (row k).length (cap - Plain.offs row k)) ww := fun ww => by
                          rw [slice_mid g _ cap _ i hfi (by omega) (by omega), hmi]
                        have hki : (Plain.offs row k : Int) ≤ (i : Int) := by omega
                        have hic : (i : Int) ≤ (cap : Int) := by omega
                        have hfk : Plain.offs row k ≤ 1048576 := by omega
                        have hz0 : (k : Int) < (L : Int) := by omega
                        have HE : Hid _ := he
                        clear hb he e1
                        go_wp2_with fail
                        go_quiet ((go_at_call 9; exact cs.out _))
                        go_wp2_with fail
                        go_roundw
                        case rel => exact ⟨k + 1, i + 1, _, by omega, by go_num, by go_num, by rw [Plain.offs_succ, ← HE.out]; go_num, by rw [HE.out]; exact Plain.here_nl hkL, rfl⟩
                        case measure => simp [intOf]; omega
                    · obtain rfl : i = Plain.offs row L := by omega
                      have hkL := Plain.here_stop hh.out (Nat.le_refl _) (Nat.le_refl _)
                      subst hkL
                      clear hlt hi hh
                      go_wp2_with fail
                      go_ret
                      exact ⟨rfl, below_drewN hbel.out _⟩
    · go_wp2_with fail
      go_ret
      exact ⟨rfl, Below.refl _ _⟩

set_option maxRecDepth 20000 in
set_option maxHeartbeats 1000000 in
theorem law_zero (st : Int) (ao : Option Addr) (C : Nat) (w : World) (hst : IntKind.u64.wrap st = st) :
    Calls Try.prog 3 #[.int .u64 st, .slice ao 0 C] w fun e w' => e = .returned (.bool true) ∧ Below w.heap.size w w' := by
  have zb := zb4_zero st ao C w
  go_enter Try.func3, Try.ntmps3
  go_wp2_with fail
  refine zb.mono ?_
  rintro e w' ⟨⟨bb, rfl⟩, rfl⟩
  clear zb
  cases bb
  · go_wp2_with fail
    go_ret
    exact ⟨rfl, Below.refl _ _⟩
  · go_wp2_with fail
    go_loop [5, 6] (fun t i => i = .int .i64 0 ∧ t = .int .i64 0) (fun _ _ => 0)
    case atStart => exact ⟨rfl, rfl⟩
    case round =>
      obtain ⟨rfl, rfl⟩ := hrel
      go_wp2_with fail
      go_loop [7] (fun i => i = .int .i64 0) (fun _ => 0)
      case atStart => rfl
      case round =>
        subst hrel
        go_wp2_with fail
        refine (new6 _ _).mono ?_
        rintro e w1 ⟨lb, base, wk, cd, sp, rfl, hp⟩
        have HP : Hid (LogPart w' w1 lb base wk cd sp (.slice none 0 0) 0 st) := hp
        clear hp
        go_wp2_with fail
        go_loop [9] (fun i => i = .int .i64 0) (fun _ => 0)
        case atStart => rfl
        case round =>
          subst hrel
          have ss := state8 w' w1 lb base wk cd sp (.slice none 0 0) 0 [] 0 st HP.out (World.ownsRow_nil _ _ _ _)
          go_wp2_with fail
          refine ss.mono ?_
          rintro e w3 ⟨rfl, q, rfl⟩
          clear ss
          go_wp2_with fail
          go_loop [16, 17, 18] (fun kk ff ii => kk = .int .i64 0 ∧ ff = .int .i64 0 ∧ ii = .int .i64 0) (fun _ _ _ => 0)
          case atStart => exact ⟨rfl, rfl, rfl⟩
          case round =>
            obtain ⟨rfl, rfl, rfl⟩ := hrel
            go_wp2_with fail
            go_ret
            exact ⟨rfl, below_drewN HP.out.below q⟩
end Go.Proofs.Qxb6618560a
