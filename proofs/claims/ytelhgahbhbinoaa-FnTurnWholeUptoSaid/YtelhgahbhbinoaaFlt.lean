/-
  Plain facts about the words of a binary64: rungs, magnitudes, rounding. No program in sight.
-/
import Ieee.Arith
import Derived.Laws.FloatBits
namespace Go.Proofs.Ytelhgahbhbinoaa.Flt
open Ieee

/-! ### powers of two -/
theorem pow_pos (k : Nat) : 0 < 2 ^ k := Nat.two_pow_pos k
theorem pow_le {a b : Nat} (h : a ≤ b) : 2 ^ a ≤ 2 ^ b := Nat.pow_le_pow_right (by decide) h
theorem pow_lt {a b : Nat} (h : a < b) : 2 ^ a < 2 ^ b := Nat.pow_lt_pow_right (by decide) h
theorem pow_split {a b : Nat} (h : a ≤ b) : 2 ^ b = 2 ^ a * 2 ^ (b - a) := by
  rw [← Nat.pow_add]; congr 1; omega
theorem lt_of_pow_lt {a b : Nat} (h : 2 ^ a < 2 ^ b) : a < b := by
  rcases Nat.lt_or_ge a b with hab | hab
  · exact hab
  · exact absurd (pow_le hab) (by omega)

/-! ### the magnitude of a rung, in units of the least positive number -/
def rv (r : Nat) : Nat := if r < 2 ^ 52 then r else (2 ^ 52 + r % 2 ^ 52) * 2 ^ (r / 2 ^ 52 - 1)

theorem rv_low {r : Nat} (h : r < 2 ^ 52) : rv r = r := by unfold rv; rw [if_pos h]

/-- a rung given by a significand and a binade -/
theorem rv_mk {m t : Nat} (h1 : 2 ^ 52 ≤ m) (h2 : m ≤ 2 ^ 53) : rv (t * 2 ^ 52 + m) = m * 2 ^ t := by
  unfold rv
  rw [if_neg (by omega)]
  rcases Nat.lt_or_ge m (2 ^ 53) with h | h
  · have e1 : (t * 2 ^ 52 + m) / 2 ^ 52 - 1 = t := by omega
    have e2 : 2 ^ 52 + (t * 2 ^ 52 + m) % 2 ^ 52 = m := by omega
    rw [e1, e2]
  · obtain rfl : m = 2 ^ 53 := by omega
    have e1 : (t * 2 ^ 52 + 2 ^ 53) / 2 ^ 52 - 1 = t + 1 := by omega
    have e2 : 2 ^ 52 + (t * 2 ^ 52 + 2 ^ 53) % 2 ^ 52 = 2 ^ 52 := by omega
    rw [e1, e2, Nat.pow_succ]; omega

theorem rv_small {r : Nat} (h : r ≤ 2 ^ 53) : rv r = r := by
  rcases Nat.lt_or_ge r (2 ^ 52) with h' | h'
  · exact rv_low h'
  · have := rv_mk (m := r) (t := 0) h' h
    simpa using this

/-- every rung from 2^52 on is of that form -/
theorem rung_split {r : Nat} (h : 2 ^ 52 ≤ r) : ∃ t m, r = t * 2 ^ 52 + m ∧ 2 ^ 52 ≤ m ∧ m < 2 ^ 53 :=
  ⟨r / 2 ^ 52 - 1, 2 ^ 52 + r % 2 ^ 52, by omega, by omega, by omega⟩

theorem rv_gap (r : Nat) : rv (r + 1) = rv r + 2 ^ (r / 2 ^ 52 - 1) := by
  rcases Nat.lt_or_ge r (2 ^ 52) with h | h
  · rw [rv_small (by omega), rv_small (by omega)]
    have : r / 2 ^ 52 - 1 = 0 := by omega
    rw [this]
  · obtain ⟨t, m, rfl, h1, h2⟩ := rung_split h
    rw [rv_mk h1 (by omega), Nat.add_assoc, rv_mk (by omega) (by omega), Nat.add_mul]
    have : (t * 2 ^ 52 + m) / 2 ^ 52 - 1 = t := by omega
    rw [this, Nat.one_mul]

theorem rv_lt_succ (r : Nat) : rv r < rv (r + 1) := by
  rw [rv_gap]; have := pow_pos (r / 2 ^ 52 - 1); omega

theorem rv_lt {a b : Nat} (h : a < b) : rv a < rv b := by
  induction b with
  | zero => omega
  | succ b ih =>
    rcases Nat.lt_or_ge a b with h' | h'
    · exact Nat.lt_trans (ih h') (rv_lt_succ b)
    · obtain rfl : a = b := by omega
      exact rv_lt_succ a

theorem rv_le {a b : Nat} (h : a ≤ b) : rv a ≤ rv b := by
  rcases Nat.lt_or_ge a b with h' | h'
  · exact Nat.le_of_lt (rv_lt h')
  · obtain rfl : a = b := by omega
    exact Nat.le_refl _

theorem rv_lt_iff {a b : Nat} : rv a < rv b ↔ a < b := by
  constructor
  · intro h
    rcases Nat.lt_or_ge a b with h' | h'
    · exact h'
    · have := rv_le h'; omega
  · exact rv_lt

theorem rv_le_iff {a b : Nat} : rv a ≤ rv b ↔ a ≤ b := by
  constructor
  · intro h
    rcases Nat.lt_or_ge b a with h' | h'
    · have := rv_lt h'; omega
    · exact h'
  · exact rv_le

theorem rv_inj {a b : Nat} (h : rv a = rv b) : a = b := by
  have h1 : a ≤ b := rv_le_iff.1 (by omega)
  have h2 : b ≤ a := rv_le_iff.1 (by omega)
  omega

theorem rv_zero : rv 0 = 0 := rv_small (by decide)
theorem le_rv (r : Nat) : r ≤ rv r := by
  induction r with
  | zero => omega
  | succ r ih => have := rv_lt_succ r; omega

theorem rv_pos {r : Nat} (h : 0 < r) : 0 < rv r := by have := le_rv r; omega

theorem rv_shift {r : Nat} (h : 2 ^ 52 ≤ r) (j : Nat) : rv (r + j * 2 ^ 52) = rv r * 2 ^ j := by
  obtain ⟨t, m, rfl, h1, h2⟩ := rung_split h
  rw [rv_mk h1 (by omega), show t * 2 ^ 52 + m + j * 2 ^ 52 = (t + j) * 2 ^ 52 + m by omega, rv_mk h1 (by omega), Nat.pow_add, Nat.mul_assoc]

/-! ### half to even -/
def rhe (n d : Nat) : Nat :=
  n / 2 ^ d + (if 2 ^ d < 2 * (n % 2 ^ d) ∨ (2 ^ d = 2 * (n % 2 ^ d) ∧ n / 2 ^ d % 2 = 1) then 1 else 0)

/-- what half to even says -/
theorem rhe_spec (n d : Nat) : 2 * n ≤ (2 * rhe n d + 1) * 2 ^ d ∧ (rhe n d % 2 = 1 → 2 * n < (2 * rhe n d + 1) * 2 ^ d) ∧
    2 * rhe n d * 2 ^ d ≤ 2 * n + 2 ^ d ∧ (rhe n d % 2 = 1 → 2 * rhe n d * 2 ^ d < 2 * n + 2 ^ d) := by
  have hp := pow_pos d
  have hm := Nat.mod_lt n hp
  have hd := Nat.div_add_mod n (2 ^ d)
  generalize hq : n / 2 ^ d = q at *
  generalize hr : n % 2 ^ d = r at *
  generalize hP : 2 ^ d = p at *
  have e : rhe n d = q + (if p < 2 * r ∨ (p = 2 * r ∧ q % 2 = 1) then 1 else 0) := by
    unfold rhe; rw [hP, hq, hr]
  rw [e]
  have e1 : (2 * q + 1) * p = 2 * (p * q) + p := by rw [Nat.add_mul, Nat.one_mul, Nat.mul_assoc, Nat.mul_comm q p]
  have e2 : (2 * (q + 1) + 1) * p = 2 * (p * q) + 3 * p := by
    rw [show 2 * (q + 1) + 1 = 2 * q + 3 by omega, Nat.add_mul, Nat.mul_assoc, Nat.mul_comm q p]
  have e3 : 2 * (q + 1) * p = 2 * (p * q) + 2 * p := by
    rw [show 2 * (q + 1) = 2 * q + 2 by omega, Nat.add_mul, Nat.mul_assoc, Nat.mul_comm q p]
  have e4 : 2 * q * p = 2 * (p * q) := by rw [Nat.mul_assoc, Nat.mul_comm q p]
  generalize p * q = pq at *
  split
  · rw [e2, e3]
    refine ⟨by omega, fun _ => by omega, by omega, fun h => by omega⟩
  · simp only [Nat.add_zero]
    rw [e1, e4]
    refine ⟨by omega, fun _ => by omega, by omega, fun h => by omega⟩

theorem rhe_zero (n : Nat) : rhe n 0 = n := by
  unfold rhe
  rw [Nat.pow_zero, Nat.div_one, Nat.mod_one, if_neg (by omega)]; omega

theorem rhe_mul (n d a : Nat) : rhe (n * 2 ^ a) (d + a) = rhe n d := by
  unfold rhe
  have h1 : n * 2 ^ a / 2 ^ (d + a) = n / 2 ^ d := by rw [Nat.pow_add, Nat.mul_div_mul_right _ _ (pow_pos a)]
  have h2 : n * 2 ^ a % 2 ^ (d + a) = n % 2 ^ d * 2 ^ a := by rw [Nat.pow_add, Nat.mul_mod_mul_right]
  rw [h1, h2]
  have hp := pow_pos a
  have e : ∀ x : Nat, 2 * (x * 2 ^ a) = (2 * x) * 2 ^ a := fun x => by rw [Nat.mul_assoc]
  have i1 : (2 ^ (d + a) < 2 * (n % 2 ^ d * 2 ^ a)) ↔ 2 ^ d < 2 * (n % 2 ^ d) := by
    rw [e, Nat.pow_add]; exact Nat.mul_lt_mul_right hp
  have i2 : (2 ^ (d + a) = 2 * (n % 2 ^ d * 2 ^ a)) ↔ 2 ^ d = 2 * (n % 2 ^ d) := by
    rw [e, Nat.pow_add]; exact Nat.mul_right_cancel_iff hp
  simp only [i1, i2]

theorem rhe_exact (q d : Nat) : rhe (q * 2 ^ d) d = q := by
  have := rhe_mul q 0 d
  rw [Nat.zero_add] at this
  rw [this, rhe_zero]

theorem cut_even (neg : Bool) (n d : Nat) : Toward.even.cut neg n d = rhe n d := by
  unfold Toward.cut rhe
  simp only [Nat.shiftLeft_eq, Nat.one_mul]
  have boo : ∀ (p r q : Nat), (decide (p < 2 * r) || (p == 2 * r && q % 2 == 1)).toNat = if p < 2 * r ∨ (p = 2 * r ∧ q % 2 = 1) then 1 else 0 := by
    intro p r q
    by_cases h : p < 2 * r ∨ (p = 2 * r ∧ q % 2 = 1)
    · rw [if_pos h]; rcases h with h | ⟨h, h'⟩
      · simp [h]
      · simp [← h, h']
    · rw [if_neg h]
      have h1 : ¬ p < 2 * r := fun x => h (Or.inl x)
      by_cases h2 : p = 2 * r
      · have h3 : ¬ q % 2 = 1 := fun x => h (Or.inr ⟨h2, x⟩)
        simp [h1, h3]
      · simp [h1, h2]
  rw [boo]
  rcases Nat.lt_or_ge (n.log2 + 2) d with h | h
  · rw [Nat.min_eq_right (by omega)]
    by_cases hn : n = 0
    · subst hn
      have h1 := pow_pos d
      have h2 := pow_pos (Nat.log2 0 + 2)
      simp only [Nat.zero_div, Nat.zero_mod]
      rw [if_neg (by omega), if_neg (by omega)]
    · have hl : n < 2 ^ (n.log2 + 1) := Nat.lt_log2_self
      have h1 : n < 2 ^ (n.log2 + 2) := Nat.lt_trans hl (pow_lt (by omega))
      have h2 : n < 2 ^ d := Nat.lt_trans h1 (pow_lt h)
      have h3 : 2 * n < 2 ^ (n.log2 + 2) := by rw [Nat.pow_succ]; omega
      have h4 : 2 * n < 2 ^ d := Nat.lt_trans h3 (pow_lt h)
      rw [Nat.mod_eq_of_lt h1, Nat.mod_eq_of_lt h2, Nat.div_eq_of_lt h1, Nat.div_eq_of_lt h2, if_neg (by omega), if_neg (by omega)]
  · rw [Nat.min_eq_left h]

/-! ### the nearest rung to 'N / 2^k', infinity left out of sight -/
def ru (N k : Nat) : Nat := if N = 0 then 0 else (N.log2 - (52 + k)) * 2 ^ 52 + rhe N (N.log2 - (52 + k) + k)

/-- 'r' is nearest to 'N / 2^k', with halves to even. -/
def Near (N k r : Nat) : Prop :=
  (2 * N ≤ (rv r + rv (r + 1)) * 2 ^ k ∧ (r % 2 = 1 → 2 * N < (rv r + rv (r + 1)) * 2 ^ k)) ∧
  (0 < r → (rv (r - 1) + rv r) * 2 ^ k ≤ 2 * N ∧ (r % 2 = 1 → (rv (r - 1) + rv r) * 2 ^ k < 2 * N))

theorem near_mono {N N' k r r' : Nat} (h : Near N k r) (h' : Near N' k r') (hN : N ≤ N') : r ≤ r' := by
  rcases Nat.lt_or_ge r' r with hl | hl
  · exfalso
    obtain ⟨⟨u1, u2⟩, _⟩ := h'
    obtain ⟨_, hlo⟩ := h
    obtain ⟨l1, l2⟩ := hlo (by omega)
    have m1 : rv r' ≤ rv (r - 1) := rv_le (by omega)
    have m2 : rv (r' + 1) ≤ rv r := rv_le (by omega)
    have m3 : (rv r' + rv (r' + 1)) * 2 ^ k ≤ (rv (r - 1) + rv r) * 2 ^ k := Nat.mul_le_mul_right _ (by omega)
    rcases Nat.lt_or_ge (r' + 1) r with hs | hs
    · have m4 : rv r' < rv (r - 1) := rv_lt (by omega)
      have m5 : (rv r' + rv (r' + 1)) * 2 ^ k < (rv (r - 1) + rv r) * 2 ^ k := Nat.mul_lt_mul_of_pos_right (by omega) (pow_pos k)
      omega
    · obtain rfl : r = r' + 1 := by omega
      rcases Nat.mod_two_eq_zero_or_one r' with e | e
      · have := l2 (by omega); omega
      · have := u2 e; omega
  · exact hl

theorem near_unique {N k r r' : Nat} (h : Near N k r) (h' : Near N k r') : r = r' :=
  Nat.le_antisymm (near_mono h h' (Nat.le_refl _)) (near_mono h' h (Nat.le_refl _))

theorem near_ru (N k : Nat) : Near N k (ru N k) := by
  unfold ru
  split
  · rename_i h; subst h
    refine ⟨⟨by omega, fun h => by simp at h⟩, fun h => absurd h (by omega)⟩
  · rename_i hN
    have hL1 : 2 ^ N.log2 ≤ N := Nat.log2_self_le hN
    have hL2 : N < 2 ^ (N.log2 + 1) := Nat.lt_log2_self
    generalize N.log2 = L at *
    rcases Nat.lt_or_ge L (53 + k) with hL | hL
    · -- the lowest two binades: the rungs are the numbers
      have ht : L - (52 + k) = 0 := by omega
      rw [ht, Nat.zero_mul, Nat.zero_add, Nat.zero_add]
      obtain ⟨s1, s2, s3, s4⟩ := rhe_spec N k
      generalize hq : rhe N k = q at *
      have hp := pow_pos k
      have hN2 : N < 2 ^ 53 * 2 ^ k := by
        rw [← Nat.pow_add]; exact Nat.lt_of_lt_of_le hL2 (pow_le (by omega))
      have hqle : q ≤ 2 ^ 53 := by
        rcases Nat.lt_or_ge (2 ^ 53) q with hc | hc
        · exfalso
          have : (2 * (2 ^ 53 + 1)) * 2 ^ k ≤ 2 * q * 2 ^ k := Nat.mul_le_mul_right _ (by omega)
          rw [Nat.mul_add, Nat.add_mul, Nat.mul_assoc] at this
          omega
        · exact hc
      have r0 : rv q = q := rv_small hqle
      have r1 : q + 1 ≤ rv (q + 1) := le_rv _
      have r2 : rv (q - 1) = q - 1 := rv_small (by omega)
      refine ⟨⟨?_, fun ho => ?_⟩, fun hpos => ⟨?_, fun ho => ?_⟩⟩
      · rw [r0]
        exact Nat.le_trans s1 (Nat.mul_le_mul_right _ (by omega))
      · rw [r0]
        exact Nat.lt_of_lt_of_le (s2 ho) (Nat.mul_le_mul_right _ (by omega))
      · rw [r0, r2]
        have : (q - 1 + q) * 2 ^ k + 2 ^ k = 2 * q * 2 ^ k := by
          rw [← Nat.succ_mul]; congr 1; omega
        omega
      · rw [r0, r2]
        have : (q - 1 + q) * 2 ^ k + 2 ^ k = 2 * q * 2 ^ k := by
          rw [← Nat.succ_mul]; congr 1; omega
        have := s4 ho
        omega
    · -- a normal number
      obtain ⟨s1, s2, s3, s4⟩ := rhe_spec N (L - (52 + k) + k)
      generalize hq : rhe N (L - (52 + k) + k) = q at *
      generalize ht : L - (52 + k) = t at *
      have hLt : L = 52 + (t + k) := by omega
      have hp := pow_pos (t + k)
      have n1 : 2 ^ 52 * 2 ^ (t + k) ≤ N := by rw [← Nat.pow_add]; rw [← hLt]; exact hL1
      have n2 : N < 2 ^ 53 * 2 ^ (t + k) := by
        rw [← Nat.pow_add]; rw [show 53 + (t + k) = L + 1 by omega]; exact hL2
      have hqge : 2 ^ 52 ≤ q := by
        rcases Nat.lt_or_ge q (2 ^ 52) with hc | hc
        · exfalso
          have : (2 * q + 1) * 2 ^ (t + k) ≤ (2 * (2 ^ 52 - 1) + 1) * 2 ^ (t + k) := Nat.mul_le_mul_right _ (by omega)
          omega
        · exact hc
      have hqle : q ≤ 2 ^ 53 := by
        rcases Nat.lt_or_ge (2 ^ 53) q with hc | hc
        · exfalso
          have : (2 * (2 ^ 53 + 1)) * 2 ^ (t + k) ≤ 2 * q * 2 ^ (t + k) := Nat.mul_le_mul_right _ (by omega)
          omega
        · exact hc
      have r0 : rv (t * 2 ^ 52 + q) = q * 2 ^ t := rv_mk hqge hqle
      have r1 : rv (t * 2 ^ 52 + q) + 2 ^ t ≤ rv (t * 2 ^ 52 + q + 1) := by
        rw [rv_gap]
        have : 2 ^ t ≤ 2 ^ ((t * 2 ^ 52 + q) / 2 ^ 52 - 1) := pow_le (by omega)
        omega
      have r1' : (2 * q + 1) * 2 ^ (t + k) ≤ (rv (t * 2 ^ 52 + q) + rv (t * 2 ^ 52 + q + 1)) * 2 ^ k := by
        rw [Nat.pow_add, ← Nat.mul_assoc]
        refine Nat.mul_le_mul_right _ ?_
        rw [Nat.add_mul, Nat.one_mul, Nat.mul_assoc]
        omega
      refine ⟨⟨Nat.le_trans s1 r1', fun ho => Nat.lt_of_lt_of_le (s2 (by omega)) r1'⟩, fun _ => ?_⟩
      rcases Nat.lt_or_ge (2 ^ 52) q with hq52 | hq52
      · have r2 : rv (t * 2 ^ 52 + q - 1) = (q - 1) * 2 ^ t := by
          rw [show t * 2 ^ 52 + q - 1 = t * 2 ^ 52 + (q - 1) by omega]
          exact rv_mk (by omega) (by omega)
        have r2' : (rv (t * 2 ^ 52 + q - 1) + rv (t * 2 ^ 52 + q)) * 2 ^ k + 2 ^ (t + k) = 2 * q * 2 ^ (t + k) := by
          rw [r2, r0, ← Nat.add_mul, Nat.mul_assoc, ← Nat.pow_add, ← Nat.succ_mul]
          congr 1; omega
        refine ⟨by omega, fun ho => ?_⟩
        have := s4 (by omega)
        omega
      · obtain rfl : q = 2 ^ 52 := by omega
        have r2 : rv (t * 2 ^ 52 + 2 ^ 52 - 1) ≤ rv (t * 2 ^ 52 + 2 ^ 52) := rv_le (by omega)
        have r2' : (rv (t * 2 ^ 52 + 2 ^ 52 - 1) + rv (t * 2 ^ 52 + 2 ^ 52)) * 2 ^ k ≤ 2 * (2 ^ 52 * 2 ^ (t + k)) := by
          refine Nat.le_trans (Nat.mul_le_mul_right _ (Nat.add_le_add_right r2 _)) ?_
          rw [r0, ← Nat.two_mul, Nat.mul_assoc, Nat.mul_assoc, ← Nat.pow_add]
          exact Nat.le_refl _
        refine ⟨by omega, fun ho => ?_⟩
        exfalso; omega

theorem ru_eq {N k r : Nat} (h : Near N k r) : ru N k = r := near_unique (near_ru N k) h

theorem ru_mono {N N' k : Nat} (h : N ≤ N') : ru N k ≤ ru N' k := near_mono (near_ru N k) (near_ru N' k) h

theorem near_exact (r k : Nat) : Near (rv r * 2 ^ k) k r := by
  have hp := pow_pos k
  refine ⟨⟨?_, fun _ => ?_⟩, fun h => ⟨?_, fun _ => ?_⟩⟩
  · have := rv_lt_succ r
    rw [← Nat.mul_assoc]; exact Nat.mul_le_mul_right _ (by omega)
  · have := rv_lt_succ r
    rw [← Nat.mul_assoc]; exact Nat.mul_lt_mul_of_pos_right (by omega) hp
  · have : rv (r - 1) < rv r := rv_lt (by omega)
    rw [← Nat.mul_assoc]; exact Nat.mul_le_mul_right _ (by omega)
  · have : rv (r - 1) < rv r := rv_lt (by omega)
    rw [← Nat.mul_assoc]; exact Nat.mul_lt_mul_of_pos_right (by omega) hp

theorem ru_exact (r k : Nat) : ru (rv r * 2 ^ k) k = r := ru_eq (near_exact r k)
theorem ru_exact0 (r : Nat) : ru (rv r) 0 = r := by have := ru_exact r 0; simpa using this

theorem near_scale {N k r : Nat} (j : Nat) (h : Near N k r) : Near (N * 2 ^ j) (k + j) r := by
  have hp := pow_pos j
  obtain ⟨⟨u1, u2⟩, l⟩ := h
  have e : 2 * (N * 2 ^ j) = 2 * N * 2 ^ j := by rw [Nat.mul_assoc]
  refine ⟨⟨?_, fun ho => ?_⟩, fun h0 => ⟨?_, fun ho => ?_⟩⟩
  · rw [e, Nat.pow_add, ← Nat.mul_assoc]; exact Nat.mul_le_mul_right _ u1
  · rw [e, Nat.pow_add, ← Nat.mul_assoc]; exact Nat.mul_lt_mul_of_pos_right (u2 ho) hp
  · rw [e, Nat.pow_add, ← Nat.mul_assoc]; exact Nat.mul_le_mul_right _ (l h0).1
  · rw [e, Nat.pow_add, ← Nat.mul_assoc]; exact Nat.mul_lt_mul_of_pos_right ((l h0).2 ho) hp

theorem ru_scale (N k j : Nat) : ru (N * 2 ^ j) (k + j) = ru N k := ru_eq (near_scale j (near_ru N k))

theorem ru_zero (k : Nat) : ru 0 k = 0 := by unfold ru; rw [if_pos rfl]

end Go.Proofs.Ytelhgahbhbinoaa.Flt
