/-
  THE WALKS that only read, under 'FnNamesOneMoreNameAnywhereIsNotEmpty': sqb1AddStrings, sqb1NamesTooBig, (Names).Empty.
-/
import Derived.Test.Qxb6618616aRows
import Derived.WalkKit
import Derived.WalkSpells
import Derived.WalkLawsBesides
namespace Go.Proofs.Qxb6618616a.nm
open Go.RowKit

/-- A []string of length n that lies in w: where there is an element its cell holds a string. -/
def StrsAt (w : World) (ao : Option Addr) (n : Nat) : Prop := ∀ j, j < n → ∃ b off, ao = some ⟨b, off, none⟩ ∧ ∃ s : ByteArray, w.cell? ⟨b, off + j, none⟩ = some (.string s)

/-- What sqb1AddStrings answers. -/
def AddAns (total : Int) (n : Nat) (e : Ending) : Prop := ∃ t : Int, e = .returned (.int .i64 t) ∧ 0 ≤ t ∧ t ≤ 4194304 ∧ (t ≤ 1048576 → n ≤ 65536 ∧ total ≤ 1048576)
theorem addAns_max (total : Int) (n : Nat) : AddAns total n (.returned (.int .i64 1048577)) := ⟨_, rfl, by omega, by omega, fun h => by omega⟩
theorem addAns_of {total t : Int} {n : Nat} (h0 : 0 ≤ t) (h1 : t ≤ 4194304) (hn : n ≤ 65536) (ht : total ≤ 1048576) : AddAns total n (.returned (.int .i64 t)) := ⟨_, rfl, h0, h1, fun _ => ⟨hn, ht⟩⟩

set_option maxHeartbeats 400000 in
theorem add21 (total : Int) (ao : Option Addr) (n c : Nat) (w : World) (hs : StrsAt w ao n) (h0 : 0 ≤ total) (h1 : total ≤ 4194304) :
    Calls Try.prog 21 #[.int .i64 total, .slice ao n c] w fun e w' => AddAns total n e ∧ w' = w := by
  have HS : Hid (StrsAt w ao n) := hs
  clear hs
  by_cases ht : total ≤ 1048576
  · by_cases hn : n ≤ 65536
    · go_enter Try.func21, Try.ntmps21
      go_wp2_with fail
      go_loop [0, 5] (fun t i => ∃ (z : Int) (k : Nat), 0 ≤ z ∧ z ≤ 4194304 ∧ k ≤ n ∧ i = .int .i64 k ∧ t = .int .i64 z) (fun _ i => n - (intOf i).toNat)
      case atStart => exact ⟨total + 16 * n, 0, by omega, by omega, Nat.zero_le _, rfl, rfl⟩
      case round =>
        obtain ⟨z, k, hz0, hz1, hk, rfl, rfl⟩ := hrel
        by_cases hlt : k < n
        · obtain ⟨b, off, rfl, s, g1⟩ := HS.out k hlt
          obtain ⟨r, hr⟩ : ∃ r, s.size = r := ⟨_, rfl⟩
          by_cases hz : z ≤ 1048576
          · by_cases h2 : s.size ≤ 1048576
            · clear HS hr
              go_wp2_with fail
              go_round
              case rel => exact ⟨z + s.size, k + 1, by omega, by omega, by omega, by go_num, rfl⟩
              case measure => simp [intOf]; omega
            · clear HS hr
              go_wp2_with fail
              go_ret
              exact ⟨addAns_max _ _, rfl⟩
          · clear HS hr
            go_wp2_with fail
            go_ret
            exact ⟨addAns_max _ _, rfl⟩
        · clear HS
          go_wp2_with fail
          go_ret
          exact ⟨addAns_of hz0 hz1 hn ht, rfl⟩
    · clear HS
      go_enter Try.func21, Try.ntmps21
      go_wp2_with fail
      go_ret
      exact ⟨addAns_max _ _, rfl⟩
  · clear HS
    go_enter Try.func21, Try.ntmps21
    go_wp2_with fail
    go_ret
    exact ⟨addAns_max _ _, rfl⟩

/-- What sqb1NamesTooBig answers. -/
def BigAns (P : Prop) (e : Ending) : Prop := ∃ bb : Bool, e = .returned (.bool bb) ∧ (bb = false → P)

set_option maxHeartbeats 1000000 in
theorem big14 (ex : Int) (a1 a2 a3 a4 a5 a6 : Option Addr) (n1 n2 n3 n4 n5 n6 c1 c2 c3 c4 c5 c6 : Nat) (w : World) (s1 : StrsAt w a1 n1) (s2 : StrsAt w a2 n2) (s3 : StrsAt w a3 n3) (s4 : StrsAt w a4 n4) (s5 : StrsAt w a5 n5) (s6 : StrsAt w a6 n6) (h0 : 0 ≤ ex) (h1 : ex ≤ 4194304) :
    Calls Try.prog 14 #[.int .i64 ex, .slice a1 n1 c1, .slice a2 n2 c2, .slice a3 n3 c3, .slice a4 n4 c4, .slice a5 n5 c5, .slice a6 n6 c6] w fun e w' =>
      BigAns (n1 ≤ 65536 ∧ n2 ≤ 65536 ∧ n3 ≤ 65536 ∧ n4 ≤ 65536 ∧ n5 ≤ 65536 ∧ n6 ≤ 65536) e ∧ w' = w := by
  go_enter Try.func14, Try.ntmps14
  go_wp2_with fail
  refine (add21 _ _ _ _ _ s1 h0 h1).mono ?_
  rintro e w1 ⟨⟨t1, rfl, g1, l1, f1⟩, rfl⟩
  go_wp2_with fail
  refine (add21 _ _ _ _ _ s2 g1 l1).mono ?_
  rintro e w2 ⟨⟨t2, rfl, g2, l2, f2⟩, rfl⟩
  go_wp2_with fail
  refine (add21 _ _ _ _ _ s3 g2 l2).mono ?_
  rintro e w3 ⟨⟨t3, rfl, g3, l3, f3⟩, rfl⟩
  go_wp2_with fail
  refine (add21 _ _ _ _ _ s4 g3 l3).mono ?_
  rintro e w4 ⟨⟨t4, rfl, g4, l4, f4⟩, rfl⟩
  go_wp2_with fail
  refine (add21 _ _ _ _ _ s5 g4 l4).mono ?_
  rintro e w5 ⟨⟨t5, rfl, g5, l5, f5⟩, rfl⟩
  go_wp2_with fail
  refine (add21 _ _ _ _ _ s6 g5 l5).mono ?_
  rintro e w6 ⟨⟨t6, rfl, g6, l6, f6⟩, rfl⟩
  have F1 : Hid _ := f1
  have F2 : Hid _ := f2
  have F3 : Hid _ := f3
  have F4 : Hid _ := f4
  have F5 : Hid _ := f5
  have F6 : Hid _ := f6
  clear f1 f2 f3 f4 f5 f6
  go_wp2_with fail
  go_ret
  refine ⟨⟨decide (1048576 < t6), rfl, fun hb => ?_⟩, rfl⟩
  have h6 : t6 ≤ 1048576 := by simpa using hb
  have r6 := F6.out h6
  have r5 := F5.out r6.2
  have r4 := F4.out r5.2
  have r3 := F3.out r4.2
  have r2 := F2.out r3.2
  have r1 := F1.out r2.2
  exact ⟨r1.1, r2.1, r3.1, r4.1, r5.1, r6.1⟩

set_option maxHeartbeats 400000 in
theorem empty18 (a1 a2 a3 a4 : Option Addr) (n1 n2 n3 n4 c1 c2 c3 c4 : Nat) (w : World) (h1 : n1 ≤ 1048576) (h2 : n2 ≤ 1048576) (h3 : n3 ≤ 1048576) (h4 : n4 ≤ 1048576) :
    Calls Try.prog 18 #[.agg #[.slice a1 n1 c1, .slice a2 n2 c2, .slice a3 n3 c3, .slice a4 n4 c4]] w fun e w' => e = .returned (.bool (((n1 : Int) + n2 + n3 + n4) == 0)) ∧ Below w.heap.size w w' := by
  go_enter Try.func18, Try.ntmps18
  go_wp2_with fail
  go_ret
  exact ⟨rfl, (Below.refl _ _).alloc (Nat.le_refl _) _⟩
end Go.Proofs.Qxb6618616a.nm
