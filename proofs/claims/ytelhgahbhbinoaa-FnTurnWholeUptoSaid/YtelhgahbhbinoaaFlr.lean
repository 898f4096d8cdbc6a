/-
  Plain facts about the words of a binary64: which natural numbers (of least positive numbers) the format has; what times and divided by a power of 2 gives. No program in sight.
-/
import Derived.Test.YtelhgahbhbinoaaFlc
namespace Go.Proofs.Ytelhgahbhbinoaa.Flt
open Ieee

/-- the format, its exponents let run upward without an end, has this number of least positive numbers -/
def Rep (n : Nat) : Prop := ∃ r, rv r = n

/-- the rung of a number of least positive numbers -/
def wd (n : Nat) : Nat := ru n 0

theorem rv_wd {n : Nat} (h : Rep n) : rv (wd n) = n := by
  obtain ⟨r, rfl⟩ := h
  unfold wd; rw [ru_exact0]
theorem wd_rv (r : Nat) : wd (rv r) = r := ru_exact0 r
theorem rep_rv (r : Nat) : Rep (rv r) := ⟨r, rfl⟩
theorem wd_zero : wd 0 = 0 := ru_zero 0
theorem rep_zero : Rep 0 := ⟨0, rv_zero⟩
theorem rep_small {n : Nat} (h : n ≤ 2 ^ 53) : Rep n := ⟨n, rv_small h⟩
theorem wd_small {n : Nat} (h : n ≤ 2 ^ 53) : wd n = n := by
  have := wd_rv n; rw [rv_small h] at this; exact this

/-- every number of the format is a significand times a power of 2 -/
theorem rv_form (r : Nat) : ∃ m t, rv r = m * 2 ^ t ∧ m < 2 ^ 53 ∧ (2 ^ 52 ≤ m ∨ t = 0) := by
  rcases Nat.lt_or_ge r (2 ^ 52) with h | h
  · exact ⟨r, 0, by rw [rv_low h]; omega, by omega, Or.inr rfl⟩
  · obtain ⟨t, m, rfl, h1, h2⟩ := rung_split h
    exact ⟨m, t, rv_mk h1 (by omega), h2, Or.inl h1⟩

theorem rep_of {m : Nat} (k : Nat) (h : m ≤ 2 ^ 53) : Rep (m * 2 ^ k) := by
  by_cases h0 : m = 0
  · rw [h0, Nat.zero_mul]; exact rep_zero
  have hL1 := Nat.log2_self_le h0
  have hL2 : m < 2 ^ (m.log2 + 1) := Nat.lt_log2_self
  have hL : m.log2 ≤ 53 := by
    have : 2 ^ m.log2 < 2 ^ 54 := Nat.lt_of_le_of_lt (Nat.le_trans hL1 h) (by decide)
    have := lt_of_pow_lt this
    omega
  rcases Nat.lt_or_ge (m.log2 + k) 53 with hk | hk
  · refine rep_small ?_
    have : m * 2 ^ k < 2 ^ (m.log2 + 1) * 2 ^ k := Nat.mul_lt_mul_of_pos_right hL2 (pow_pos k)
    rw [← Nat.pow_add] at this
    exact Nat.le_of_lt (Nat.lt_of_lt_of_le this (pow_le (by omega)))
  · rcases Nat.lt_or_ge m.log2 53 with h53 | h53
    · refine ⟨(k - (52 - m.log2)) * 2 ^ 52 + m * 2 ^ (52 - m.log2), ?_⟩
      rw [rv_mk]
      · rw [Nat.mul_assoc, ← Nat.pow_add]; congr 2; omega
      · have : 2 ^ m.log2 * 2 ^ (52 - m.log2) ≤ m * 2 ^ (52 - m.log2) := Nat.mul_le_mul_right _ hL1
        rw [← Nat.pow_add, show m.log2 + (52 - m.log2) = 52 by omega] at this
        exact this
      · have : m * 2 ^ (52 - m.log2) < 2 ^ (m.log2 + 1) * 2 ^ (52 - m.log2) := Nat.mul_lt_mul_of_pos_right hL2 (pow_pos _)
        rw [← Nat.pow_add, show m.log2 + 1 + (52 - m.log2) = 53 by omega] at this
        omega
    · have e : m = 2 ^ 53 := by
        have : 2 ^ 53 ≤ 2 ^ m.log2 := pow_le h53
        omega
      refine ⟨k * 2 ^ 52 + 2 ^ 53, ?_⟩
      rw [rv_mk (by decide) (by decide), e]

theorem Rep.mul_pow {n : Nat} (h : Rep n) (k : Nat) : Rep (n * 2 ^ k) := by
  obtain ⟨r, rfl⟩ := h
  obtain ⟨m, t, e, hm, _⟩ := rv_form r
  rw [e, Nat.mul_assoc, ← Nat.pow_add]
  exact rep_of _ (by omega)

theorem Rep.of_mul_pow {n k : Nat} (h : Rep (n * 2 ^ k)) : Rep n := by
  obtain ⟨r, hr⟩ := h
  obtain ⟨m, t, e, hm, _⟩ := rv_form r
  rw [e] at hr
  have hk := pow_pos k
  rcases Nat.lt_or_ge t k with htk | htk
  · have : n * 2 ^ (k - t) = m := by
      have h2 : m * 2 ^ t = n * 2 ^ (k - t) * 2 ^ t := by
        rw [hr, Nat.mul_assoc, ← Nat.pow_add]; congr 2; omega
      exact (Nat.eq_of_mul_eq_mul_right (pow_pos t) h2).symm
    have hle : n ≤ n * 2 ^ (k - t) := Nat.le_mul_of_pos_right _ (pow_pos _)
    exact rep_small (by omega)
  · have : n = m * 2 ^ (t - k) := by
      have h2 : n * 2 ^ k = m * 2 ^ (t - k) * 2 ^ k := by
        rw [← hr, Nat.mul_assoc, ← Nat.pow_add]; congr 2; omega
      exact Nat.eq_of_mul_eq_mul_right hk h2
    rw [this]
    exact rep_of _ (by omega)

theorem wd_lt_iff {a b : Nat} (ha : Rep a) (hb : Rep b) : wd a < wd b ↔ a < b := by
  have h := @rv_lt_iff (wd a) (wd b)
  rw [rv_wd ha, rv_wd hb] at h
  exact h.symm
theorem wd_le_iff {a b : Nat} (ha : Rep a) (hb : Rep b) : wd a ≤ wd b ↔ a ≤ b := by
  have h := @rv_le_iff (wd a) (wd b)
  rw [rv_wd ha, rv_wd hb] at h
  exact h.symm

/-- infinity's place among the numbers, if there were no infinity -/
def TOP : Nat := rv INF
theorem wd_fin {n : Nat} (h : Rep n) (hn : n < TOP) : wd n < INF := by
  rw [← rv_lt_iff, rv_wd h]; exact hn
theorem rv_lt_TOP {r : Nat} (h : r < INF) : rv r < TOP := rv_lt h

theorem rg_wd {n : Nat} (h : Rep n) (hn : n < TOP) : rg (wd n) = wd n := by
  have := wd_fin h hn
  have := INF_lt
  unfold rg; exact Nat.mod_eq_of_lt (by omega)
theorem sg_wd {n : Nat} (h : Rep n) (hn : n < TOP) : sg (wd n) = false := by
  have h1 := wd_fin h hn
  have h2 := INF_lt
  have : mk false (wd n) = wd n := rfl
  rw [← this, sg_mk _ (by omega)]
theorem key_wd {n : Nat} (h : Rep n) (hn : n < TOP) : key (wd n) = (wd n : Int) := by
  unfold key; rw [sg_wd h hn, rg_wd h hn]; simp
theorem fv_wd {n : Nat} (h : Rep n) (hn : n < TOP) : fv (wd n) = (n : Int) := by
  unfold fv; rw [sg_wd h hn, rg_wd h hn, rv_wd h]; simp
theorem wd_word {n : Nat} (h : Rep n) (hn : n < TOP) : wd n < 2 ^ 64 := by
  have h1 := wd_fin h hn
  have h2 := INF_lt
  omega

/-- a power of 2 as a word -/
theorem rv_pow (E : Nat) (h : 1 ≤ E) : rv (E * 2 ^ 52) = 2 ^ (51 + E) := by
  rw [show E * 2 ^ 52 = (E - 1) * 2 ^ 52 + 2 ^ 52 by omega, rv_mk (by decide) (by decide), ← Nat.pow_add]
  congr 1; omega
theorem TOP_eq : TOP = 2 ^ (1024 + e0) := by
  unfold TOP
  obtain ⟨E, hE⟩ : ∃ E, E = 2047 := ⟨_, rfl⟩
  have : INF = E * 2 ^ 52 := by rw [hE]; rfl
  have he := e0_eq
  rw [this, rv_pow E (by omega)]
  congr 1; omega
theorem wd_pow (E : Nat) (h : 1 ≤ E) : wd (2 ^ (51 + E)) = E * 2 ^ 52 := by
  rw [← rv_pow E h, wd_rv]
theorem rep_pow (k : Nat) : Rep (2 ^ k) := by have := rep_of (m := 1) k (by decide); rwa [Nat.one_mul] at this
theorem pow_TOP {k : Nat} (h : k < 1024 + e0) : 2 ^ k < TOP := by rw [TOP_eq]; exact pow_lt h

/-! ### times and divided by a power of 2 -/
/-- what rounding makes of a natural number that the format has -/
theorem rs_rep {n : Nat} (h : Rep n) (hn : n < TOP) (s : Bool) (k : Nat) : rs s (if s then -((n * 2 ^ k : Nat) : Int) else ((n * 2 ^ k : Nat) : Int)) k = mk s (wd n) := by
  rw [← rs_signed]
  have : ru (n * 2 ^ k) k = wd n := by
    have := ru_scale n 0 k
    rw [Nat.zero_add] at this
    exact this
  rw [this, Nat.min_eq_left (Nat.le_of_lt (wd_fin h hn))]

theorem mk_false (r : Nat) : mk false r = r := rfl

/-- a word that is finite, by its sign and magnitude -/
theorem word_eq {b : Nat} (hb : b < 2 ^ 64) : b = mk (sg b) (wd (rv (rg b))) := by
  rw [wd_rv]; exact (mk_of hb).symm
theorem rg_mkwd (s : Bool) {n : Nat} (h : Rep n) (hn : n < TOP) : rg (mk s (wd n)) = wd n := by
  have h1 := wd_fin h hn
  have h2 := INF_lt
  exact rg_mk s (by omega)
theorem sg_mkwd (s : Bool) {n : Nat} (h : Rep n) (hn : n < TOP) : sg (mk s (wd n)) = s := by
  have h1 := wd_fin h hn
  have h2 := INF_lt
  exact sg_mk s (by omega)
theorem fv_mkwd (s : Bool) {n : Nat} (h : Rep n) (hn : n < TOP) : fv (mk s (wd n)) = if s then -(n : Int) else (n : Int) := by
  unfold fv; rw [sg_mkwd s h hn, rg_mkwd s h hn, rv_wd h]
theorem fin_mkwd (s : Bool) {n : Nat} (h : Rep n) (hn : n < TOP) : fin (mk s (wd n)) := by
  unfold fin; rw [rg_mkwd s h hn]; exact wd_fin h hn
theorem mkwd_lt (s : Bool) {n : Nat} (h : Rep n) (hn : n < TOP) : mk s (wd n) < 2 ^ 64 := by
  have h1 := wd_fin h hn
  have h2 := INF_lt
  exact mk_lt s (by omega)

theorem log2_pow (k : Nat) : (2 ^ k).log2 = k := Nat.log2_two_pow

/-- divided by a power of 2 -/
theorem div_pow {a c j : Nat} (ha : rg a < INF) (hc : double.read c = .number false (2 ^ 52) ((j : Int) - 52)) : double.div a c = some (rs (sg a) (fv a) j) := by
  obtain ⟨m, e, hra, hma, hm53, _⟩ := read_fin ha
  unfold Format.div
  rw [hra, hc]
  simp only [Datum.quotient]
  rw [if_neg (by decide)]
  have hl : m.log2 ≤ 52 := by
    by_cases h0 : m = 0
    · rw [h0]; decide
    · have := Nat.log2_self_le h0
      have : 2 ^ m.log2 < 2 ^ 53 := by omega
      have := lt_of_pow_lt this
      omega
  have hf : double.fractionBits + 2 = 54 := rfl
  rw [hf, log2_pow, Nat.shiftLeft_eq]
  obtain ⟨q, hq⟩ : ∃ q, 54 + 52 - m.log2 = 52 + (q + 1) := ⟨53 - m.log2, by omega⟩
  rw [hq]
  have e1 : m * 2 ^ (52 + (q + 1)) = m * 2 ^ (q + 1) * 2 ^ 52 := by rw [Nat.mul_assoc, ← Nat.pow_add, Nat.add_comm 52]
  rw [e1, Nat.mul_div_cancel _ (by decide), Nat.mul_mod_left]
  simp only [Option.map_some, Format.write, bne_self_eq_false, Bool.toNat_false, Nat.add_zero, Bool.xor_false]
  congr 1
  rw [nearest_eq _ _ _ e (j + (q + 2)) (by omega)]
  have e2 : 2 * (m * 2 ^ (q + 1)) * 2 ^ e = rv (rg a) * 2 ^ (q + 2) := by
    rw [← hma, show q + 2 = (q + 1) + 1 by omega, Nat.pow_succ 2 (q + 1)]
    rw [Nat.mul_comm 2, Nat.mul_assoc, Nat.mul_assoc, Nat.mul_assoc]
    congr 1
    ac_rfl
  rw [e2, ru_scale, rs_signed]
  rfl

theorem read_pow {E : Nat} (h1 : 1 ≤ E) (h2 : E ≤ 2046) : double.read (E * 2 ^ 52) = .number false (2 ^ 52) ((E : Int) - 1075) := by
  have hI : INF = 2047 * 2 ^ 52 := rfl
  have hrg : rg (E * 2 ^ 52) = E * 2 ^ 52 := by unfold rg; exact Nat.mod_eq_of_lt (by omega)
  have hsg : sg (E * 2 ^ 52) = false := by
    have : mk false (E * 2 ^ 52) = E * 2 ^ 52 := rfl
    rw [← this, sg_mk _ (by omega)]
  rw [read_eq, hrg, hsg, if_neg (by omega), if_pos (by omega)]
  congr 1
  · omega
  · omega

end Go.Proofs.Ytelhgahbhbinoaa.Flt
