/-
  THE PLAIN LAW under both statements of this seat: no Go in sight. 'hasSp l': one of the runes that l decodes to (Go's own way: U+FFFD of width one where the bytes are broken) is white space. A list parts at a place where no continuation byte begins: 'hasSp_append'.
-/
import Derived.Lib.DecodeN
import Derived.Lib.SpaceR
namespace Go.Proofs.Qxb6618505aDoor.Plain
open Go

/-- The rune at the head of l and its width. -/
def dec (l : List UInt8) : Nat × Nat := Lib.decodeN l.length (l.getD 0 0).toNat (l.getD 1 0).toNat (l.getD 2 0).toNat (l.getD 3 0).toNat

def hasSpF : Nat → List UInt8 → Bool
  | 0, _ => false
  | f + 1, l => if l = [] then false else (Lib.isSpaceR (dec l).1 || hasSpF f (l.drop (dec l).2))
def hasSp (l : List UInt8) : Bool := hasSpF l.length l

/-- A place where no continuation byte begins (or the end). -/
def Starts (b : List UInt8) : Prop := ∀ x r, b = x :: r → x.toNat / 64 ≠ 2

theorem decodeN_pos (n b0 b1 b2 b3 : Nat) : 1 ≤ (Lib.decodeN n b0 b1 b2 b3).2 := by
  unfold Lib.decodeN
  repeat' split
  all_goals simp

theorem decodeN_le (n b0 b1 b2 b3 : Nat) (h : 1 ≤ n) : (Lib.decodeN n b0 b1 b2 b3).2 ≤ n := by
  unfold Lib.decodeN
  repeat' split
  all_goals (simp only; omega)

theorem dec_pos (l : List UInt8) : 1 ≤ (dec l).2 := decodeN_pos _ _ _ _ _
theorem dec_le (l : List UInt8) (h : l ≠ []) : (dec l).2 ≤ l.length := by
  apply decodeN_le
  cases l with
  | nil => exact absurd rfl h
  | cons => simp

/-- Two fuels that are both enough. -/
theorem hasSpF_two : ∀ (f g : Nat) (l : List UInt8), l.length ≤ f → l.length ≤ g → hasSpF f l = hasSpF g l := by
  intro f
  induction f with
  | zero =>
    intro g l h _
    have : l = [] := List.length_eq_zero_iff.1 (by omega)
    subst this
    cases g <;> simp [hasSpF]
  | succ f ih =>
    intro g l h hg
    by_cases hl : l = []
    · subst hl; cases g <;> simp [hasSpF]
    · have hp := dec_pos l
      have hlen : 0 < l.length := List.length_pos_iff.2 hl
      obtain ⟨m, rfl⟩ : ∃ m, g = m + 1 := ⟨g - 1, by omega⟩
      have d : (l.drop (dec l).2).length = l.length - (dec l).2 := by simp
      have := ih m (l.drop (dec l).2) (by omega) (by omega)
      simp [hasSpF, hl, this]

theorem hasSpF_fuel (f : Nat) (l : List UInt8) (h : l.length ≤ f) : hasSpF f l = hasSp l := hasSpF_two f l.length l h (Nat.le_refl _)

theorem hasSp_nil : hasSp [] = false := rfl
theorem hasSp_step (l : List UInt8) (h : l ≠ []) : hasSp l = (Lib.isSpaceR (dec l).1 || hasSp (l.drop (dec l).2)) := by
  have hlen : 0 < l.length := List.length_pos_iff.2 h
  have hp := dec_pos l
  obtain ⟨m, hm⟩ : ∃ m, l.length = m + 1 := ⟨l.length - 1, by omega⟩
  have e : hasSp l = (Lib.isSpaceR (dec l).1 || hasSpF m (l.drop (dec l).2)) := by unfold hasSp; rw [hm]; simp [hasSpF, h]
  rw [e, hasSpF_fuel m _ (by simp; omega)]

/-! decodeN where a continuation byte is missing -/
theorem decodeN_1 (n b0 b1 b2 b3 : Nat) (h : ¬ (1 < n ∧ b1 / 64 = 2)) : Lib.decodeN n b0 b1 b2 b3 = if b0 < 128 then (b0, 1) else (65533, 1) := by
  unfold Lib.decodeN
  simp only [h, and_false, false_and, if_false]
theorem decodeN_2 (n b0 b1 b2 b3 : Nat) (h1 : 1 < n) (h : ¬ (2 < n ∧ b2 / 64 = 2)) : Lib.decodeN n b0 b1 b2 b3 = if b0 < 128 then (b0, 1) else if b0 / 32 = 6 ∧ b1 / 64 = 2 then (if b0 % 32 * 64 + b1 % 64 ≥ 128 then (b0 % 32 * 64 + b1 % 64, 2) else (65533, 1)) else (65533, 1) := by
  unfold Lib.decodeN
  simp only [h, h1, true_and, and_false, false_and, if_false]
theorem decodeN_3 (n m b0 b1 b2 b3 c3 : Nat) (hn : 2 < n) (hm : 2 < m) (h : ¬ (3 < n ∧ b3 / 64 = 2)) (k : ¬ (3 < m ∧ c3 / 64 = 2)) : Lib.decodeN n b0 b1 b2 b3 = Lib.decodeN m b0 b1 b2 c3 := by
  have hn1 : 1 < n := by omega
  have hm1 : 1 < m := by omega
  unfold Lib.decodeN
  simp only [h, k, hn, hm, hn1, hm1, true_and, and_false, if_false]
theorem decodeN_4 (n m b0 b1 b2 b3 : Nat) (hn : 3 < n) (hm : 3 < m) : Lib.decodeN n b0 b1 b2 b3 = Lib.decodeN m b0 b1 b2 b3 := by
  have hn1 : 1 < n := by omega
  have hm1 : 1 < m := by omega
  have hn2 : 2 < n := by omega
  have hm2 : 2 < m := by omega
  unfold Lib.decodeN
  simp only [hn, hm, hn1, hm1, hn2, hm2, true_and]

theorem dec_append (a b : List UInt8) (ha : a ≠ []) (hb : Starts b) : dec (a ++ b) = dec a := by
  unfold dec
  match a, ha with
  | [x0], _ =>
    cases b with
    | nil => rfl
    | cons y r =>
      have hy := hb y r rfl
      exact (decodeN_1 ([x0] ++ y :: r).length x0.toNat y.toNat _ _ (fun h => hy h.2)).trans (decodeN_1 1 x0.toNat 0 0 0 (fun h => by simp at h)).symm
  | [x0, x1], _ =>
    cases b with
    | nil => rfl
    | cons y r =>
      have hy := hb y r rfl
      exact (decodeN_2 ([x0, x1] ++ y :: r).length x0.toNat x1.toNat y.toNat _ (by simp) (fun h => hy h.2)).trans (decodeN_2 2 x0.toNat x1.toNat 0 0 (by simp) (fun h => by simp at h)).symm
  | [x0, x1, x2], _ =>
    cases b with
    | nil => rfl
    | cons y r =>
      have hy := hb y r rfl
      exact decodeN_3 _ _ _ _ _ _ _ (by simp) (by simp) (fun h => hy h.2) (fun h => by simp at h)
  | x0 :: x1 :: x2 :: x3 :: t, _ =>
    exact decodeN_4 _ _ _ _ _ _ (by simp) (by simp)

/-- A list parts where no continuation byte begins. -/
theorem hasSp_append (a b : List UInt8) (hb : Starts b) : hasSp (a ++ b) = (hasSp a || hasSp b) := by
  obtain ⟨n, hn⟩ : ∃ n, a.length ≤ n := ⟨_, Nat.le_refl _⟩
  induction n generalizing a with
  | zero =>
    have : a = [] := List.length_eq_zero_iff.1 (by omega)
    subst this
    simp [hasSp_nil]
  | succ n ih =>
    by_cases hne : a = []
    · subst hne; simp [hasSp_nil]
    · have hp := dec_pos a
      have hl := dec_le a hne
      have hd : dec (a ++ b) = dec a := dec_append a b hne hb
      rw [hasSp_step (a ++ b) (by simp [hne]), hasSp_step a hne, hd]
      have hdr : (a ++ b).drop (dec a).2 = a.drop (dec a).2 ++ b := List.drop_append_of_le_length hl
      rw [hdr, ih _ (by simp; omega), Bool.or_assoc]

/-! ### hosts -/
def host (l : List UInt8) : Bool := !l.isEmpty && !hasSp l
def graphic (l : List UInt8) : Bool := !l.isEmpty && l.all fun c => decide (33 ≤ c.toNat ∧ c.toNat ≤ 126)

theorem hasSp_graphic : ∀ (l : List UInt8), (∀ c ∈ l, 33 ≤ c.toNat ∧ c.toNat ≤ 126) → hasSp l = false
  | [], _ => rfl
  | c :: t, h => by
    have hc := h c (.head _)
    have hd : dec (c :: t) = (c.toNat, 1) := by
      unfold dec Lib.decodeN
      rw [if_pos (by simp; omega)]
      simp
    rw [hasSp_step _ (by simp), hd]
    simp only [List.drop_succ_cons, List.drop_zero]
    rw [hasSp_graphic t (fun x hx => h x (.tail _ hx)), Lib.isSpaceR_false (by unfold Lib.IsSpaceP; omega)]
    rfl
theorem graphic_host {l : List UInt8} (h : graphic l = true) : host l = true := by
  simp only [graphic, Bool.and_eq_true, List.all_eq_true, decide_eq_true_eq] at h
  unfold host
  rw [h.1, hasSp_graphic l h.2]
  rfl

theorem starts_nil : Starts [] := fun _ _ h => by cases h
theorem starts_cons {x : UInt8} {r : List UInt8} (h : x.toNat / 64 ≠ 2) : Starts (x :: r) := fun y s e => by
  cases e; exact h
theorem sp_x : hasSp [120] = false := by decide
theorem sp_20 : hasSp [32] = true := by decide
theorem sp_3000 : hasSp [227, 128, 128] = true := by decide
theorem sp_85 : hasSp [194, 133] = true := by decide

/-- The first law: name = a ++ b, cut where no continuation byte begins. -/
theorem split_law (a b : List UInt8) (hb : Starts b) :
    host (a ++ b) = (!(a ++ b).isEmpty && (a.isEmpty || host a) && (b.isEmpty || host b)) := by
  unfold host
  rw [hasSp_append a b hb]
  cases a <;> cases b <;> simp [hasSp_nil]
  all_goals (cases hasSp _ <;> simp)
theorem split_x (a : List UInt8) : host (a ++ [120]) = (a.isEmpty || host a) := by
  unfold host
  rw [hasSp_append a [120] (starts_cons (by decide)), sp_x]
  cases a <;> simp [hasSp_nil]

/-- The second law: m put in between. -/
theorem host_mid (a m b : List UInt8) (hb : Starts b) (hm : Starts m) (hmn : m ≠ []) : host (a ++ m ++ b) = (!hasSp a && !hasSp m && !hasSp b) := by
  unfold host
  have hmb : Starts (m ++ b) := by
    cases m with
    | nil => exact absurd rfl hmn
    | cons x r => exact starts_cons (hm x r rfl)
  rw [List.append_assoc, hasSp_append a _ hmb, hasSp_append m b hb]
  cases a <;> cases m <;> simp_all [Bool.and_assoc]
theorem ins_x (a b : List UInt8) (hb : Starts b) : host (a ++ [120] ++ b) = ((a ++ b).isEmpty || host (a ++ b)) := by
  rw [host_mid a [120] b hb (starts_cons (by decide)) (by simp), sp_x]
  unfold host
  rw [hasSp_append a b hb]
  cases a <;> cases b <;> simp [hasSp_nil]
theorem ins_20 (a b : List UInt8) (hb : Starts b) : host (a ++ [32] ++ b) = false := by
  rw [host_mid a [32] b hb (starts_cons (by decide)) (by simp), sp_20]; simp
theorem ins_3000 (a b : List UInt8) (hb : Starts b) : host (a ++ [227, 128, 128] ++ b) = false := by
  rw [host_mid a [227, 128, 128] b hb (starts_cons (by decide)) (by simp), sp_3000]; simp
theorem ins_85 (a b : List UInt8) (hb : Starts b) : host (a ++ [194, 133] ++ b) = false := by
  rw [host_mid a [194, 133] b hb (starts_cons (by decide)) (by simp), sp_85]; simp
end Go.Proofs.Qxb6618505aDoor.Plain
