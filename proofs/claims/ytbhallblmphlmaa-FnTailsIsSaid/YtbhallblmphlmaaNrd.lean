/-
  Plain facts behind spec.rounded: the nearest number, found bit by bit. No program in sight.
-/
import Derived.Test.YtbhallblmphlmaaNvl
namespace Go.Proofs.Ytbhallblmphlmaa.Flt
open Ieee

/-- 'N / 2^x', cut -/
def fq (N : Nat) (x : Int) : Nat := if x < 0 then N * 2 ^ (-x).toNat else N / 2 ^ x.toNat
/-- the bit at a place; 0 below the point -/
def bq (N : Nat) (x : Int) : Nat := if x < 0 then 0 else N / 2 ^ x.toNat % 2

theorem bq_lt (N : Nat) (x : Int) : bq N x < 2 := by unfold bq; split <;> omega
theorem fq_succ (N : Nat) (x : Int) : fq N x = 2 * fq N (x + 1) + bq N x := by
  unfold fq bq
  by_cases h : x < 0
  · rw [if_pos h, if_pos h]
    by_cases h1 : x + 1 < 0
    · rw [if_pos h1, show (-x).toNat = (-(x + 1)).toNat + 1 by omega, Nat.pow_succ, ← Nat.mul_assoc]; omega
    · rw [if_neg h1, show (-x).toNat = 1 by omega, show (x + 1).toNat = 0 by omega]; omega
  · rw [if_neg h, if_neg h, if_neg (by omega), show (x + 1).toNat = x.toNat + 1 by omega, Nat.pow_succ, ← Nat.div_div_eq_div_mul]
    omega
theorem fq_top {N : Nat} {x : Int} {k : Nat} (h : N < 2 ^ k) (hx : (k : Int) ≤ x) : fq N x = 0 := by
  unfold fq
  rw [if_neg (by omega)]
  exact Nat.div_eq_of_lt (Nat.lt_of_lt_of_le h (pow_le (by omega)))

/-- half to even at a place -/
def rq (N : Nat) (d : Int) : Nat := if d < 0 then N * 2 ^ (-d).toNat else rhe N d.toNat

/-- there is a bit below the place d - 1 -/
def lowq (N : Nat) (d : Int) : Bool := decide (0 < N % 2 ^ (d - 1).toNat ∧ 1 ≤ d)

theorem rq_eq (N : Nat) (d : Int) : rq N d = fq N d + (if bq N (d - 1) = 1 ∧ (lowq N d = true ∨ fq N d % 2 = 1) then 1 else 0) := by
  unfold rq fq
  by_cases h : d < 0
  · rw [if_pos h, if_pos h]
    have : bq N (d - 1) = 0 := by unfold bq; rw [if_pos (by omega)]
    rw [this, if_neg (by omega)]; omega
  · rw [if_neg h, if_neg h]
    by_cases h0 : d = 0
    · subst h0
      have : bq N (0 - 1) = 0 := by unfold bq; rw [if_pos (by omega)]
      rw [this, if_neg (by omega)]
      show rhe N 0 = N / 2 ^ 0 + 0
      rw [rhe_zero]; simp
    · obtain ⟨j, rfl⟩ : ∃ j : Nat, d = (j : Int) + 1 := ⟨(d - 1).toNat, by omega⟩
      have e1 : ((j : Int) + 1).toNat = j + 1 := by omega
      have e2 : ((j : Int) + 1 - 1).toNat = j := by omega
      have hb : bq N ((j : Int) + 1 - 1) = N / 2 ^ j % 2 := by unfold bq; rw [if_neg (by omega), e2]
      have hl : lowq N ((j : Int) + 1) = decide (0 < N % 2 ^ j) := by
        unfold lowq; rw [e2]
        by_cases h' : 0 < N % 2 ^ j
        · simp [h']; omega
        · simp [h']
      rw [hb, hl, e1]
      unfold rhe
      have hp := pow_pos j
      have hm : N % 2 ^ (j + 1) = 2 ^ j * (N / 2 ^ j % 2) + N % 2 ^ j := by
        rw [Nat.pow_succ, Nat.mod_mul]; omega
      have hlt : N % 2 ^ j < 2 ^ j := Nat.mod_lt _ hp
      have h2 : 2 ^ (j + 1) = 2 * 2 ^ j := by rw [Nat.pow_succ]; omega
      rw [hm, h2]
      generalize N % 2 ^ j = lo at *
      have hbit : N / 2 ^ j % 2 = 0 ∨ N / 2 ^ j % 2 = 1 := by omega
      generalize N / (2 * 2 ^ j) = q at *
      generalize 2 ^ j = p at *
      congr 1
      rcases hbit with hb0 | hb1
      · rw [hb0, if_neg (by omega), if_neg (by omega)]
      · rw [hb1]
        have hiff : (2 * p < 2 * (p * 1 + lo) ∨ (2 * p = 2 * (p * 1 + lo) ∧ q % 2 = 1)) ↔ (1 = 1 ∧ (decide (0 < lo) = true ∨ q % 2 = 1)) := by
          simp only [decide_eq_true_eq, true_and]
          omega
        simp only [hiff]

/-- the place of the last bit that is kept, above -1074 -/
def tq (N : Nat) (E : Int) : Nat := (E + (bl N : Int) - 53).toNat

theorem lds_rq {N : Nat} (hN : 0 < N) (E : Int) : lds N E = tq N E * 2 ^ 52 + rq N ((tq N E : Int) - E) := by
  have main : ∀ a k : Nat, (a = 0 ∨ k = 0) → E = (a : Int) - k → lds N E = tq N E * 2 ^ 52 + rq N ((tq N E : Int) - E) := by
    intro a k hor he
    rw [lds_of N he]
    unfold ru
    have hne : N * 2 ^ a ≠ 0 := Nat.mul_ne_zero (by omega) (by have := pow_pos a; omega)
    rw [if_neg hne, log2_mul_pow N a (by omega)]
    have hb := bl_pos hN
    have ht : N.log2 + a - (52 + k) = tq N E := by unfold tq; omega
    rw [ht]
    congr 1
    generalize tq N E = t at *
    unfold rq
    rcases hor with rfl | rfl
    · rw [if_neg (by omega), Nat.pow_zero, Nat.mul_one]
      congr 1; omega
    · rcases Nat.lt_or_ge t a with hta | hta
      · rw [if_pos (by omega), Nat.add_zero, show a = (a - t) + t by omega, Nat.pow_add, ← Nat.mul_assoc, rhe_exact]
        congr 2; omega
      · rw [if_neg (by omega), Nat.add_zero]
        have := rhe_mul N (t - a) a
        rw [show t - a + a = t by omega] at this
        rw [this]; congr 1; omega
  rcases Int.lt_or_le E 0 with h | h
  · exact main 0 (-E).toNat (Or.inl rfl) (by omega)
  · exact main E.toNat 0 (Or.inr rfl) (by omega)

/-- the significand that is kept -/
theorem rq_range {N : Nat} (hN : 0 < N) (E : Int) : rq N ((tq N E : Int) - E) ≤ 2 ^ 53 ∧ (2 ^ 52 ≤ rq N ((tq N E : Int) - E) ∨ tq N E = 0) := by
  have h1 := lt_bl N
  have h2 := le_bl hN
  have hb : 0 < bl N := by rw [bl_pos hN]; omega
  generalize hd : (tq N E : Int) - E = d
  have hdt : d = (tq N E : Int) - E := hd.symm
  have htq : tq N E = (E + (bl N : Int) - 53).toNat := rfl
  generalize tq N E = t at *
  unfold rq
  by_cases h : d < 0
  · rw [if_pos h]
    obtain ⟨j, hj⟩ : ∃ j : Nat, (-d).toNat = j := ⟨_, rfl⟩
    rw [hj]
    have u : N * 2 ^ j < 2 ^ bl N * 2 ^ j := Nat.mul_lt_mul_of_pos_right h1 (pow_pos j)
    rw [← Nat.pow_add] at u
    have u2 : 2 ^ (bl N + j) ≤ 2 ^ 53 := pow_le (by omega)
    refine ⟨by omega, ?_⟩
    by_cases ht : t = 0
    · right; exact ht
    · left
      have l : 2 ^ (bl N - 1) * 2 ^ j ≤ N * 2 ^ j := Nat.mul_le_mul_right _ h2
      rw [← Nat.pow_add] at l
      have l2 : 2 ^ 52 ≤ 2 ^ (bl N - 1 + j) := pow_le (by omega)
      omega
  · rw [if_neg h]
    obtain ⟨j, hj⟩ : ∃ j : Nat, d.toNat = j := ⟨_, rfl⟩
    rw [hj]
    obtain ⟨s1, s2, s3, s4⟩ := rhe_spec N j
    have hp := pow_pos j
    refine ⟨?_, ?_⟩
    · rcases Nat.lt_or_ge (2 ^ 53) (rhe N j) with hc | hc
      · exfalso
        have c1 : 2 * (2 ^ 53 + 1) * 2 ^ j ≤ 2 * rhe N j * 2 ^ j := Nat.mul_le_mul_right _ (by omega)
        have c2 : N < 2 ^ 53 * 2 ^ j := by
          rw [← Nat.pow_add]; exact Nat.lt_of_lt_of_le h1 (pow_le (by omega))
        have c3 : 2 * (2 ^ 53 + 1) * 2 ^ j = 2 * (2 ^ 53 * 2 ^ j) + 2 * 2 ^ j := by rw [Nat.mul_add, Nat.add_mul, Nat.mul_assoc]
        omega
      · exact hc
    · by_cases ht : t = 0
      · right; exact ht
      · left
        rcases Nat.lt_or_ge (rhe N j) (2 ^ 52) with hc | hc
        · exfalso
          have c1 : (2 * rhe N j + 1) * 2 ^ j ≤ (2 * (2 ^ 52 - 1) + 1) * 2 ^ j := Nat.mul_le_mul_right _ (by omega)
          have c2 : 2 ^ 52 * 2 ^ j ≤ N := by
            rw [← Nat.pow_add]; exact Nat.le_trans (pow_le (by omega)) h2
          have c3 : (2 * (2 ^ 52 - 1) + 1) * 2 ^ j + 2 ^ j = 2 * (2 ^ 52 * 2 ^ j) := by
            rw [← Nat.succ_mul, ← Nat.mul_assoc]
          omega
        · exact hc

/-- too great a number, as the code tells it -/
theorem rq_over {m t : Nat} (h1 : m ≤ 2 ^ 53) (h2 : 2 ^ 52 ≤ m ∨ t = 0) : (1024 < (bl m : Int) + ((t : Int) - 1074)) ↔ INF ≤ t * 2 ^ 52 + m := by
  have hI := INF_val
  rcases Nat.lt_or_ge m (2 ^ 53) with hm | hm
  · rcases h2 with h2 | h2
    · have := bl_unique (k := 52) h2 hm
      omega
    · have := bl_le hm
      omega
  · have e : m = 2 ^ 53 := by omega
    have := bl_unique (n := m) (k := 53) hm (by omega)
    omega

/-- what spec.rounded gives -/
def rdd (neg : Bool) (N : Nat) (E : Int) : Nat := if N = 0 then 0 else mk neg (min (lds N E) INF)
theorem rdd_over {neg : Bool} {N m t : Nat} {E : Int} (hN : 0 < N) (ht : t = tq N E) (hm : m = rq N ((t : Int) - E)) (h : INF ≤ t * 2 ^ 52 + m) : mk neg INF = rdd neg N E := by
  unfold rdd
  rw [if_neg (by omega), lds_rq hN E, ← ht, ← hm, Nat.min_eq_right h]
theorem rdd_in {neg : Bool} {N m t : Nat} {E : Int} (hN : 0 < N) (ht : t = tq N E) (hm : m = rq N ((t : Int) - E)) (h : ¬ INF ≤ t * 2 ^ 52 + m) : Fits (m * 2 ^ t) ∧ mk neg (wd (m * 2 ^ t)) = rdd neg N E := by
  have hr := rq_range hN E
  rw [← ht, ← hm] at hr
  have hv := Parts.rv_of hr.1 hr.2
  have hw : wd (m * 2 ^ t) = t * 2 ^ 52 + m := by rw [← hv, wd_rv]
  refine ⟨fits_wd hw (rep_of _ hr.1) (by omega), ?_⟩
  unfold rdd
  rw [if_neg (by omega), lds_rq hN E, ← ht, ← hm, hw, Nat.min_eq_left (by omega)]

/-- there is a bit from the place x + 1 up to d - 2 -/
def restq (N : Nat) (d x : Int) : Bool := decide (1 ≤ d ∧ 0 < N % 2 ^ (d - 1).toNat / 2 ^ (x + 1).toNat)
theorem restq_start (N : Nat) (d : Int) : restq N d (d - 2) = false := by
  unfold restq
  apply decide_eq_false
  rintro ⟨h1, h2⟩
  rw [show (d - 2 + 1).toNat = (d - 1).toNat by omega, Nat.div_eq_of_lt (Nat.mod_lt _ (pow_pos _))] at h2
  omega
theorem restq_step {N : Nat} {d : Int} {k : Nat} (hk : (k : Int) ≤ d - 2) : restq N d ((k : Int) - 1) = (restq N d k || decide (bq N k = 1)) := by
  obtain ⟨D, hD⟩ : ∃ D : Nat, (d - 1).toNat = D ∧ k < D := ⟨(d - 1).toNat, rfl, by omega⟩
  obtain ⟨hD, hkD⟩ := hD
  have hb : bq N k = N / 2 ^ k % 2 := by unfold bq; rw [if_neg (by omega)]; rfl
  unfold restq
  rw [hD, hb, show ((k : Int) - 1 + 1).toNat = k by omega, show ((k : Int) + 1).toNat = k + 1 by omega]
  have hbit : N % 2 ^ D / 2 ^ k % 2 = N / 2 ^ k % 2 := by
    have h1 : 2 ^ D = 2 ^ k * 2 ^ (D - k) := by rw [← Nat.pow_add]; congr 1; omega
    rw [h1, Nat.mod_mul_right_div_self, Nat.mod_mod_of_dvd]
    exact ⟨2 ^ (D - k - 1), by rw [← Nat.pow_succ']; congr 1; omega⟩
  rw [← hbit, Nat.pow_succ, ← Nat.div_div_eq_div_mul]
  generalize N % 2 ^ D / 2 ^ k = v
  by_cases h1 : 0 < v / 2
  · rw [decide_eq_true (show 1 ≤ d ∧ 0 < v by omega), decide_eq_true (show 1 ≤ d ∧ 0 < v / 2 by omega)]; rfl
  · by_cases h2 : v % 2 = 1
    · rw [decide_eq_true (show 1 ≤ d ∧ 0 < v by omega), decide_eq_true h2, Bool.or_true]
    · rw [decide_eq_false (show ¬ (1 ≤ d ∧ 0 < v) by omega), decide_eq_false (show ¬ (1 ≤ d ∧ 0 < v / 2) by omega), decide_eq_false h2]; rfl
theorem restq_end {N : Nat} {d x : Int} (hx : x < 0) : restq N d x = lowq N d := by
  unfold restq lowq
  rw [show (x + 1).toNat = 0 by omega, Nat.pow_zero, Nat.div_one]
  congr 1
  exact propext ⟨fun h => ⟨h.2, h.1⟩, fun h => ⟨h.2, h.1⟩⟩

theorem rq_plain {N : Nat} {d : Int} (h : bq N (d - 1) = 0) : rq N d = fq N d := by
  rw [rq_eq, if_neg (by omega)]; omega
theorem rq_even {N : Nat} {d : Int} (h1 : lowq N d = false) (h2 : fq N d % 2 = 0) : rq N d = fq N d := by
  rw [rq_eq, if_neg (by rw [h1]; simp; omega)]; omega
theorem rq_up {N : Nat} {d : Int} (h : bq N (d - 1) = 1) (h1 : lowq N d = true ∨ fq N d % 2 = 1) : rq N d = fq N d + 1 := by
  rw [rq_eq, if_pos ⟨h, h1⟩]

end Go.Proofs.Ytbhallblmphlmaa.Flt
