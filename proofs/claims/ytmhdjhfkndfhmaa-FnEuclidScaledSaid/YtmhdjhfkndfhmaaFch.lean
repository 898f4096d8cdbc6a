/-
  Chains of remainders of natural numbers: how long they are, how they fall, how they end. No program in sight.
-/
import Derived.Test.YtmhdjhfkndfhmaaFvm
namespace Go.Proofs.Ytmhdjhfkndfhmaa.Flt
open Ieee
set_option linter.unusedVariables false

/-- the remainders behind a, b -/
def cE (a b : Nat) : List Nat := if h : b = 0 then [] else (a % b) :: cE b (a % b)
termination_by b
decreasing_by exact Nat.mod_lt _ (by omega)
theorem cE_zero (a : Nat) : cE a 0 = [] := by rw [cE, dif_pos rfl]
theorem cE_pos {a b : Nat} (h : b ≠ 0) : cE a b = (a % b) :: cE b (a % b) := by rw [cE, dif_neg h]

theorem nr_lt (a : Nat) {b : Nat} (h : b ≠ 0) : nr a b < b := by have := remN_le a b (by omega); omega
/-- the nearest remainders behind a, b -/
def cN (a b : Nat) : List Nat := if h : b = 0 then [] else nr a b :: cN b (nr a b)
termination_by b
decreasing_by exact nr_lt a h
theorem cN_zero (a : Nat) : cN a 0 = [] := by rw [cN, dif_pos rfl]
theorem cN_pos {a b : Nat} (h : b ≠ 0) : cN a b = nr a b :: cN b (nr a b) := by rw [cN, dif_neg h]

theorem mod_two_mul (a b : Nat) (h : 0 < b) : a % (2 * b) = a % b ∨ a % (2 * b) = a % b + b := by
  have h1 := Nat.mod_lt a (show 0 < 2 * b by omega)
  have h2 : a % (2 * b) % b = a % b := Nat.mod_mod_of_dvd a (Nat.dvd_mul_left b 2)
  rcases Nat.lt_or_ge (a % (2 * b)) b with h3 | h3
  · left; rw [Nat.mod_eq_of_lt h3] at h2; exact h2
  · right
    rw [Nat.mod_eq_sub_mod h3, Nat.mod_eq_of_lt (by omega)] at h2
    omega

theorem nr_eq (a b : Nat) (h : 0 < b) : nr a b = if 2 * (a % b) ≤ b then a % b else b - a % b := by
  have h1 := Nat.mod_lt a h
  unfold nr remN
  rcases mod_two_mul a b h with e | e <;> rw [e]
  · by_cases hc : 2 * (a % b) ≤ b
    · rw [if_pos hc, if_pos hc, Int.natAbs_natCast]
    · rw [if_neg hc, if_neg hc, if_pos (by omega)]; omega
  · by_cases hc : 2 * (a % b) ≤ b
    · rw [if_pos hc]
      by_cases h0 : 2 * (a % b) = b
      · rw [if_neg (by omega), if_neg (by omega)]; omega
      · rw [if_neg (by omega), if_pos (by omega)]; omega
    · rw [if_neg hc, if_neg (by omega), if_neg (by omega)]; omega

/-! ### lengths -/
theorem cE_len : ∀ (k a b : Nat), b < 2 ^ k → (cE a b).length ≤ 2 * k := by
  intro k
  induction k with
  | zero =>
    intro a b h
    have : b = 0 := by rw [Nat.pow_zero] at h; omega
    rw [this, cE_zero]; exact Nat.le_refl _
  | succ k ih =>
    intro a b h
    by_cases h0 : b = 0
    · rw [h0, cE_zero]; exact Nat.zero_le _
    · rw [cE_pos h0]
      have h1 := Nat.mod_lt a (show 0 < b by omega)
      by_cases h2 : a % b = 0
      · rw [h2, cE_zero]; simp; omega
      · rw [cE_pos h2]
        have h3 := Nat.mod_lt b (show 0 < a % b by omega)
        have h4 : b % (a % b) + a % b ≤ b := by
          have := Nat.mod_add_div b (a % b)
          have h5 : 1 ≤ b / (a % b) := (Nat.le_div_iff_mul_le (by omega)).2 (by omega)
          have h6 : a % b * 1 ≤ a % b * (b / (a % b)) := Nat.mul_le_mul_left _ h5
          omega
        have := ih (a % b) (b % (a % b)) (by rw [Nat.pow_succ] at h; omega)
        simp only [List.length_cons]
        omega

theorem cE_mul (u : Nat) (hu : 0 < u) : ∀ (b a : Nat), cE (a * u) (b * u) = (cE a b).map (· * u) := by
  intro b
  induction b using Nat.strongRecOn with
  | _ b ih =>
    intro a
    by_cases h0 : b = 0
    · rw [h0, Nat.zero_mul, cE_zero, cE_zero]; rfl
    · rw [cE_pos (Nat.mul_ne_zero h0 (by omega)), cE_pos h0, Nat.mul_mod_mul_right, ih _ (Nat.mod_lt _ (by omega))]
      rfl

/-- numbers of the format have a common unit in which one of them is below 2^53 -/
theorem rep_unit {a b : Nat} (ha : Rep a) (hb : Rep b) : ∃ u m n, 0 < u ∧ a = m * u ∧ b = n * u ∧ (m < 2 ^ 53 ∨ n < 2 ^ 53) := by
  obtain ⟨m, t, e1, l1, _⟩ := ha.form
  obtain ⟨n, v, e2, l2, _⟩ := hb.form
  rcases Nat.le_total t v with h | h
  · refine ⟨2 ^ t, m, n * 2 ^ (v - t), pow_pos t, e1, ?_, Or.inl l1⟩
    rw [e2, Nat.mul_assoc, ← Nat.pow_add]; congr 2; omega
  · refine ⟨2 ^ v, m * 2 ^ (t - v), n, pow_pos v, ?_, e2, Or.inr l2⟩
    rw [e1, Nat.mul_assoc, ← Nat.pow_add]; congr 2; omega

theorem cE_short {a b : Nat} (ha : Rep a) (hb : Rep b) : (cE a b).length ≤ 107 := by
  obtain ⟨u, m, n, hu, rfl, rfl, hor⟩ := rep_unit ha hb
  rw [cE_mul u hu, List.length_map]
  by_cases h0 : n = 0
  · rw [h0, cE_zero]; exact Nat.zero_le _
  · rw [cE_pos h0]
    have h1 := Nat.mod_lt m (show 0 < n by omega)
    have h2 := Nat.mod_le m n
    have := cE_len 53 n (m % n) (by omega)
    simp only [List.length_cons]
    omega

/-- a remainder of more than half is taken back in one step more -/
theorem cE_sub {b s : Nat} (h0 : s ≠ 0) (h : 2 * s < b) : (cE b (b - s)).length = 1 + (cE b s).length := by
  have e1 : b % (b - s) = s := by
    rw [Nat.mod_eq_sub_mod (by omega), Nat.mod_eq_of_lt (by omega)]; omega
  have e2 : (b - s) % s = b % s := (Nat.mod_eq_sub_mod (show s ≤ b by omega)).symm
  rw [cE_pos (show b - s ≠ 0 by omega), e1, cE_pos h0, cE_pos h0, e2]
  simp only [List.length_cons]; omega

theorem cN_short : ∀ (b a : Nat), (cN a b).length ≤ (cE a b).length := by
  intro b
  induction b using Nat.strongRecOn with
  | _ b ih =>
    intro a
    by_cases h0 : b = 0
    · rw [h0, cN_zero, cE_zero]; exact Nat.le_refl _
    · have h1 := Nat.mod_lt a (show 0 < b by omega)
      have e := nr_eq a b (by omega)
      have hl := nr_lt a h0
      rw [cN_pos h0, cE_pos h0]
      by_cases hc : 2 * (a % b) ≤ b
      · rw [if_pos hc] at e
        rw [e] at hl ⊢
        simpa using ih _ hl b
      · rw [if_neg hc] at e
        rw [e] at hl ⊢
        have h2 := ih _ hl b
        have h3 := cE_sub (b := b) (s := b - a % b) (by omega) (by omega)
        rw [show b - (b - a % b) = a % b by omega] at h3
        simp only [List.length_cons]
        omega

/-! ### how they end -/
theorem gcd_nr {a b : Nat} (h : b ≠ 0) : Nat.gcd b (nr a b) = Nat.gcd a b := by
  have e := nr_eq a b (by omega)
  have h1 := Nat.mod_lt a (show 0 < b by omega)
  have e2 : Nat.gcd b (a % b) = Nat.gcd a b := by rw [Nat.gcd_comm, ← Nat.gcd_rec, Nat.gcd_comm]
  rw [e]
  split
  · exact e2
  · rw [← e2]
    refine Nat.dvd_antisymm ?_ ?_
    · refine Nat.dvd_gcd (Nat.gcd_dvd_left _ _) ?_
      have d1 := Nat.gcd_dvd_left b (b - a % b)
      have d2 := Nat.gcd_dvd_right b (b - a % b)
      have := Nat.dvd_sub d1 d2
      rwa [show b - (b - a % b) = a % b by omega] at this
    · exact Nat.dvd_gcd (Nat.gcd_dvd_left _ _) (Nat.dvd_sub (Nat.gcd_dvd_left _ _) (Nat.gcd_dvd_right _ _))

theorem cE_end : ∀ (b a : Nat), b ≠ 0 → ∃ l, b :: cE a b = l ++ [Nat.gcd a b, 0] := by
  intro b
  induction b using Nat.strongRecOn with
  | _ b ih =>
    intro a h0
    rw [cE_pos h0]
    have e2 : Nat.gcd b (a % b) = Nat.gcd a b := by rw [Nat.gcd_comm, ← Nat.gcd_rec, Nat.gcd_comm]
    by_cases h1 : a % b = 0
    · refine ⟨[], ?_⟩
      rw [h1, Nat.gcd_zero_right] at e2
      rw [h1, cE_zero, ← e2]; rfl
    · obtain ⟨l, hl⟩ := ih _ (Nat.mod_lt a (show 0 < b by omega)) b h1
      exact ⟨b :: l, by rw [hl, e2]; rfl⟩

theorem cN_end : ∀ (b a : Nat), b ≠ 0 → ∃ l, b :: cN a b = l ++ [Nat.gcd a b, 0] := by
  intro b
  induction b using Nat.strongRecOn with
  | _ b ih =>
    intro a h0
    rw [cN_pos h0]
    have e2 := gcd_nr (a := a) h0
    by_cases h1 : nr a b = 0
    · refine ⟨[], ?_⟩
      rw [h1, Nat.gcd_zero_right] at e2
      rw [h1, cN_zero, ← e2]; rfl
    · obtain ⟨l, hl⟩ := ih _ (nr_lt a h0) b h1
      exact ⟨b :: l, by rw [hl, e2]; rfl⟩

theorem cE_dvd {d : Nat} : ∀ (b a : Nat), d ∣ a → d ∣ b → ∀ z ∈ cE a b, d ∣ z := by
  intro b
  induction b using Nat.strongRecOn with
  | _ b ih =>
    intro a h1 h2 z hz
    by_cases h0 : b = 0
    · rw [h0, cE_zero] at hz; cases hz
    · rw [cE_pos h0] at hz
      have h3 : d ∣ a % b := (Nat.dvd_mod_iff h2).2 h1
      rcases List.mem_cons.1 hz with rfl | hz
      · exact h3
      · exact ih _ (Nat.mod_lt a (show 0 < b by omega)) b h2 h3 z hz

/-! ### chains of values -/
def stopv : Val → Bool
  | .nan => true
  | .inf _ => false
  | .num v => decide (v = 0)

/-- what comes behind a, b, for at most so many steps -/
def chn (f : Val → Val → Val) : Nat → Val → Val → List Val
  | 0, _, _ => []
  | k + 1, a, b => if stopv b then [] else f a b :: chn f k b (f a b)

theorem chn_len (f : Val → Val → Val) : ∀ (k : Nat) (a b : Val), (chn f k a b).length ≤ k := by
  intro k
  induction k with
  | zero => intro a b; exact Nat.le_refl _
  | succ k ih =>
    intro a b
    unfold chn
    split
    · exact Nat.zero_le _
    · simpa using ih b (f a b)

/-- the absolute value of a number -/
def mg : Val → Nat
  | .nan => 0
  | .inf _ => 0
  | .num v => v.natAbs

/-- the chain of finite numbers, by absolute values -/
theorem chn_mod : ∀ (k : Nat) (u v : Int), (cE u.natAbs v.natAbs).length ≤ k → (∀ z ∈ chn modv k (.num u) (.num v), ∃ t, z = .num t) ∧ (chn modv k (.num u) (.num v)).map mg = cE u.natAbs v.natAbs := by
  intro k
  induction k with
  | zero =>
    intro u v h
    refine ⟨fun z hz => (by cases hz), ?_⟩
    rw [List.eq_nil_of_length_eq_zero (Nat.le_zero.1 h)]; rfl
  | succ k ih =>
    intro u v h
    by_cases h0 : v = 0
    · subst h0
      have e : chn modv (k + 1) (.num u) (.num 0) = [] := rfl
      rw [e]
      refine ⟨fun z hz => (by cases hz), ?_⟩
      rw [Int.natAbs_zero, cE_zero]; rfl
    · have hn : v.natAbs ≠ 0 := by omega
      have e : chn modv (k + 1) (.num u) (.num v) = .num (u.tmod v) :: chn modv k (.num v) (.num (u.tmod v)) := by
        show (if decide (v = 0) then [] else _) = _
        rw [decide_eq_false h0]
        show modv (.num u) (.num v) :: _ = _
        have : modv (.num u) (.num v) = .num (u.tmod v) := by show (if v = 0 then _ else _) = _; rw [if_neg h0]
        rw [this]
      have ht : (u.tmod v).natAbs = u.natAbs % v.natAbs := Int.natAbs_tmod u v
      rw [cE_pos hn] at h ⊢
      have := ih v (u.tmod v) (by rw [ht]; simpa using h)
      rw [e]
      refine ⟨fun z hz => ?_, ?_⟩
      · rcases List.mem_cons.1 hz with rfl | hz
        · exact ⟨_, rfl⟩
        · exact this.1 z hz
      · rw [List.map_cons, this.2, ht]
        congr 1

theorem natAbs_remi (u v : Int) : (remi u v).natAbs = nr u.natAbs v.natAbs := by
  unfold remi nr; split
  · rw [Int.natAbs_neg]
  · rfl

theorem chn_rem : ∀ (k : Nat) (u v : Int), (cN u.natAbs v.natAbs).length ≤ k → (∀ z ∈ chn remv k (.num u) (.num v), ∃ t, z = .num t) ∧ (chn remv k (.num u) (.num v)).map mg = cN u.natAbs v.natAbs := by
  intro k
  induction k with
  | zero =>
    intro u v h
    refine ⟨fun z hz => (by cases hz), ?_⟩
    rw [List.eq_nil_of_length_eq_zero (Nat.le_zero.1 h)]; rfl
  | succ k ih =>
    intro u v h
    by_cases h0 : v = 0
    · subst h0
      have e : chn remv (k + 1) (.num u) (.num 0) = [] := rfl
      rw [e]
      refine ⟨fun z hz => (by cases hz), ?_⟩
      rw [Int.natAbs_zero, cN_zero]; rfl
    · have hn : v.natAbs ≠ 0 := by omega
      have e : chn remv (k + 1) (.num u) (.num v) = .num (remi u v) :: chn remv k (.num v) (.num (remi u v)) := by
        show (if decide (v = 0) then [] else _) = _
        rw [decide_eq_false h0]
        show remv (.num u) (.num v) :: _ = _
        have : remv (.num u) (.num v) = .num (remi u v) := by show (if v = 0 then _ else _) = _; rw [if_neg h0]
        rw [this]
      have ht := natAbs_remi u v
      rw [cN_pos hn] at h ⊢
      have := ih v (remi u v) (by rw [ht]; simpa using h)
      rw [e]
      refine ⟨fun z hz => ?_, ?_⟩
      · rcases List.mem_cons.1 hz with rfl | hz
        · exact ⟨_, rfl⟩
        · exact this.1 z hz
      · rw [List.map_cons, this.2, ht]
        congr 1

end Go.Proofs.Ytmhdjhfkndfhmaa.Flt
