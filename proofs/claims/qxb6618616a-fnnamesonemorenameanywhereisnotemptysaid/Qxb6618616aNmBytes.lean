/-
  THE WALK of zzBytes_FnNamesOneMoreNameAnywhereIsNotEmpty: six loops behind one another: it answers some bool and turns nothing.
-/
import Derived.Test.Qxb6618616aNmRead
namespace Go.Proofs.Qxb6618616a.nm
open Go.RowKit

def SomeBool (e : Ending) : Prop := ∃ bb, e = .returned (.bool bb)
theorem sb_mk (b : Bool) : SomeBool (.returned (.bool b)) := ⟨b, rfl⟩

set_option maxRecDepth 20000 in
set_option maxHeartbeats 4000000 in
theorem zb13 (a1 a2 a3 a4 a5 a6 : Option Addr) (n1 n2 n3 n4 n5 n6 c1 c2 c3 c4 c5 c6 : Nat) (nm : ByteArray) (w : World) (s1 : StrsAt w a1 n1) (s2 : StrsAt w a2 n2) (s3 : StrsAt w a3 n3) (s4 : StrsAt w a4 n4) (s5 : StrsAt w a5 n5) (s6 : StrsAt w a6 n6) :
    Calls Try.prog 13 #[.slice a1 n1 c1, .slice a2 n2 c2, .slice a3 n3 c3, .slice a4 n4 c4, .slice a5 n5 c5, .slice a6 n6 c6, .string nm] w fun e w' => SomeBool e ∧ w' = w := by
  have S1 : Hid (StrsAt w a1 n1) := s1
  have S2 : Hid (StrsAt w a2 n2) := s2
  have S3 : Hid (StrsAt w a3 n3) := s3
  have S4 : Hid (StrsAt w a4 n4) := s4
  have S5 : Hid (StrsAt w a5 n5) := s5
  have S6 : Hid (StrsAt w a6 n6) := s6
  clear s1 s2 s3 s4 s5 s6
  by_cases hn1 : n1 ≤ 1048576
  · go_enter Try.func13, Try.ntmps13
    go_wp2_with fail
    go_loop [15, 16] (fun t j => ∃ (z : Int) (k : Nat), 0 ≤ z ∧ z ≤ 1048576 ∧ k ≤ n1 ∧ j = .int .i64 k ∧ t = .int .i64 z) (fun _ j => n1 - (intOf j).toNat)
    case atStart => exact ⟨(n1 : Int), 0, by omega, by omega, Nat.zero_le _, rfl, rfl⟩
    case round =>
      obtain ⟨z, k, hz0, hz1, hk, rfl, rfl⟩ := hrel
      by_cases hlt : k < n1
      · obtain ⟨b, off, rfl, s, g1⟩ := S1.out k hlt
        by_cases h1 : s.size ≤ 1048576
        · by_cases h2 : z + s.size ≤ 1048576
          · go_wp2_with fail
            go_round
            case rel => exact ⟨z + s.size, k + 1, by omega, by omega, by omega, by go_num, rfl⟩
            case measure => simp [intOf]; omega
          · go_wp2_with fail
            go_ret
            exact ⟨sb_mk _, rfl⟩
        · go_wp2_with fail
          go_ret
          exact ⟨sb_mk _, rfl⟩
      · clear S1
        by_cases hn2 : n2 ≤ 1048576
        · by_cases hz2 : z + n2 ≤ 1048576
          · go_wp2_with fail
            go_loop [15, 17] (fun t j => ∃ (z : Int) (k : Nat), 0 ≤ z ∧ z ≤ 1048576 ∧ k ≤ n2 ∧ j = .int .i64 k ∧ t = .int .i64 z) (fun _ j => n2 - (intOf j).toNat)
            case atStart => exact ⟨z + n2, 0, by omega, by omega, Nat.zero_le _, rfl, rfl⟩
            case round =>
              clear hz2
              obtain ⟨z, k, hz0, hz1, hk, rfl, rfl⟩ := hrel
              by_cases hlt : k < n2
              · obtain ⟨b, off, rfl, s, g1⟩ := S2.out k hlt
                by_cases h1 : s.size ≤ 1048576
                · by_cases h2 : z + s.size ≤ 1048576
                  · go_wp2_with fail
                    go_round
                    case rel => exact ⟨z + s.size, k + 1, by omega, by omega, by omega, by go_num, rfl⟩
                    case measure => simp [intOf]; omega
                  · go_wp2_with fail
                    go_ret
                    exact ⟨sb_mk _, rfl⟩
                · go_wp2_with fail
                  go_ret
                  exact ⟨sb_mk _, rfl⟩
              · clear S2
                by_cases hn3 : n3 ≤ 1048576
                · by_cases hz3 : z + n3 ≤ 1048576
                  · go_wp2_with fail
                    go_loop [15, 18] (fun t j => ∃ (z : Int) (k : Nat), 0 ≤ z ∧ z ≤ 1048576 ∧ k ≤ n3 ∧ j = .int .i64 k ∧ t = .int .i64 z) (fun _ j => n3 - (intOf j).toNat)
                    case atStart => exact ⟨z + n3, 0, by omega, by omega, Nat.zero_le _, rfl, rfl⟩
                    case round =>
                      clear hz3
                      obtain ⟨z, k, hz0, hz1, hk, rfl, rfl⟩ := hrel
                      by_cases hlt : k < n3
                      · obtain ⟨b, off, rfl, s, g1⟩ := S3.out k hlt
                        by_cases h1 : s.size ≤ 1048576
                        · by_cases h2 : z + s.size ≤ 1048576
                          · go_wp2_with fail
                            go_round
                            case rel => exact ⟨z + s.size, k + 1, by omega, by omega, by omega, by go_num, rfl⟩
                            case measure => simp [intOf]; omega
                          · go_wp2_with fail
                            go_ret
                            exact ⟨sb_mk _, rfl⟩
                        · go_wp2_with fail
                          go_ret
                          exact ⟨sb_mk _, rfl⟩
                      · clear S3
                        by_cases hn4 : n4 ≤ 1048576
                        · by_cases hz4 : z + n4 ≤ 1048576
                          · go_wp2_with fail
                            go_loop [15, 19] (fun t j => ∃ (z : Int) (k : Nat), 0 ≤ z ∧ z ≤ 1048576 ∧ k ≤ n4 ∧ j = .int .i64 k ∧ t = .int .i64 z) (fun _ j => n4 - (intOf j).toNat)
                            case atStart => exact ⟨z + n4, 0, by omega, by omega, Nat.zero_le _, rfl, rfl⟩
                            case round =>
                              clear hz4
                              obtain ⟨z, k, hz0, hz1, hk, rfl, rfl⟩ := hrel
                              by_cases hlt : k < n4
                              · obtain ⟨b, off, rfl, s, g1⟩ := S4.out k hlt
                                by_cases h1 : s.size ≤ 1048576
                                · by_cases h2 : z + s.size ≤ 1048576
                                  · go_wp2_with fail
                                    go_round
                                    case rel => exact ⟨z + s.size, k + 1, by omega, by omega, by omega, by go_num, rfl⟩
                                    case measure => simp [intOf]; omega
                                  · go_wp2_with fail
                                    go_ret
                                    exact ⟨sb_mk _, rfl⟩
                                · go_wp2_with fail
                                  go_ret
                                  exact ⟨sb_mk _, rfl⟩
                              · clear S4
                                by_cases hn5 : n5 ≤ 1048576
                                · by_cases hz5 : z + n5 ≤ 1048576
                                  · go_wp2_with fail
                                    go_loop [15, 20] (fun t j => ∃ (z : Int) (k : Nat), 0 ≤ z ∧ z ≤ 1048576 ∧ k ≤ n5 ∧ j = .int .i64 k ∧ t = .int .i64 z) (fun _ j => n5 - (intOf j).toNat)
                                    case atStart => exact ⟨z + n5, 0, by omega, by omega, Nat.zero_le _, rfl, rfl⟩
                                    case round =>
                                      clear hz5
                                      obtain ⟨z, k, hz0, hz1, hk, rfl, rfl⟩ := hrel
                                      by_cases hlt : k < n5
                                      · obtain ⟨b, off, rfl, s, g1⟩ := S5.out k hlt
                                        by_cases h1 : s.size ≤ 1048576
                                        · by_cases h2 : z + s.size ≤ 1048576
                                          · go_wp2_with fail
                                            go_round
                                            case rel => exact ⟨z + s.size, k + 1, by omega, by omega, by omega, by go_num, rfl⟩
                                            case measure => simp [intOf]; omega
                                          · go_wp2_with fail
                                            go_ret
                                            exact ⟨sb_mk _, rfl⟩
                                        · go_wp2_with fail
                                          go_ret
                                          exact ⟨sb_mk _, rfl⟩
                                      · clear S5
                                        by_cases hn6 : n6 ≤ 1048576
                                        · by_cases hz6 : z + n6 ≤ 1048576
                                          · go_wp2_with fail
                                            go_loop [15, 21] (fun t j => ∃ (z : Int) (k : Nat), 0 ≤ z ∧ z ≤ 1048576 ∧ k ≤ n6 ∧ j = .int .i64 k ∧ t = .int .i64 z) (fun _ j => n6 - (intOf j).toNat)
                                            case atStart => exact ⟨z + n6, 0, by omega, by omega, Nat.zero_le _, rfl, rfl⟩
                                            case round =>
                                              clear hz6
                                              obtain ⟨z, k, hz0, hz1, hk, rfl, rfl⟩ := hrel
                                              by_cases hlt : k < n6
                                              · obtain ⟨b, off, rfl, s, g1⟩ := S6.out k hlt
                                                by_cases h1 : s.size ≤ 1048576
                                                · by_cases h2 : z + s.size ≤ 1048576
                                                  · go_wp2_with fail
                                                    go_round
                                                    case rel => exact ⟨z + s.size, k + 1, by omega, by omega, by omega, by go_num, rfl⟩
                                                    case measure => simp [intOf]; omega
                                                  · go_wp2_with fail
                                                    go_ret
                                                    exact ⟨sb_mk _, rfl⟩
                                                · go_wp2_with fail
                                                  go_ret
                                                  exact ⟨sb_mk _, rfl⟩
                                              · clear S6
                                                by_cases hn : nm.size ≤ 1048576
                                                · by_cases hz : z + nm.size ≤ 1048576
                                                  · go_wp2_with fail
                                                    go_ret
                                                    exact ⟨sb_mk _, rfl⟩
                                                  · go_wp2_with fail
                                                    go_ret
                                                    exact ⟨sb_mk _, rfl⟩
                                                · go_wp2_with fail
                                                  go_ret
                                                  exact ⟨sb_mk _, rfl⟩
                                          · go_wp2_with fail
                                            go_ret
                                            exact ⟨sb_mk _, rfl⟩
                                        · go_wp2_with fail
                                          go_ret
                                          exact ⟨sb_mk _, rfl⟩
                                  · go_wp2_with fail
                                    go_ret
                                    exact ⟨sb_mk _, rfl⟩
                                · go_wp2_with fail
                                  go_ret
                                  exact ⟨sb_mk _, rfl⟩
                          · go_wp2_with fail
                            go_ret
                            exact ⟨sb_mk _, rfl⟩
                        · go_wp2_with fail
                          go_ret
                          exact ⟨sb_mk _, rfl⟩
                  · go_wp2_with fail
                    go_ret
                    exact ⟨sb_mk _, rfl⟩
                · go_wp2_with fail
                  go_ret
                  exact ⟨sb_mk _, rfl⟩
          · go_wp2_with fail
            go_ret
            exact ⟨sb_mk _, rfl⟩
        · go_wp2_with fail
          go_ret
          exact ⟨sb_mk _, rfl⟩
  · go_enter Try.func13, Try.ntmps13
    go_wp2_with fail
    go_ret
    exact ⟨sb_mk _, rfl⟩
end Go.Proofs.Qxb6618616a.nm
