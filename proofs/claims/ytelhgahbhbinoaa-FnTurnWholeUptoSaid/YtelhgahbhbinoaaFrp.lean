/-
  Plain facts behind math.Frexp, math.Mod and math.Remainder: significands, exact differences, remainders that the format has. No program in sight.
-/
import Derived.Test.YtelhgahbhbinoaaFlo
namespace Go.Proofs.Ytelhgahbhbinoaa.Flt
open Ieee

theorem Rep.form {n : Nat} (h : Rep n) : ∃ m t, n = m * 2 ^ t ∧ m < 2 ^ 53 ∧ (2 ^ 52 ≤ m ∨ t = 0) := by
  obtain ⟨r, rfl⟩ := h
  exact rv_form r

/-- what is not greater than two numbers of the format, and a multiple of all that divides both, is one, too -/
theorem rep_common {a b c : Nat} (ha : Rep a) (hb : Rep b) (h1 : c ≤ a) (h2 : c ≤ b) (hd : ∀ d, d ∣ a → d ∣ b → d ∣ c) : Rep c := by
  obtain ⟨m, t, e1, l1, _⟩ := ha.form
  obtain ⟨n, u, e2, l2, _⟩ := hb.form
  have key : ∀ (k v : Nat), k < 2 ^ 53 → c ≤ k * 2 ^ v → 2 ^ v ∣ c → Rep c := by
    intro k v hk hc hv
    obtain ⟨j, rfl⟩ := hv
    rw [Nat.mul_comm (2 ^ v)] at hc ⊢
    have := Nat.le_of_mul_le_mul_right hc (pow_pos v)
    exact rep_of v (by omega)
  rcases Nat.le_total t u with h | h
  · refine key m t l1 (by omega) (hd _ ⟨m, by rw [e1, Nat.mul_comm]⟩ ?_)
    rw [e2]; exact Nat.dvd_trans (Nat.pow_dvd_pow 2 h) (Nat.dvd_mul_left _ _)
  · refine key n u l2 (by omega) (hd _ ?_ ⟨n, by rw [e2, Nat.mul_comm]⟩)
    rw [e1]; exact Nat.dvd_trans (Nat.pow_dvd_pow 2 h) (Nat.dvd_mul_left _ _)

theorem rep_rem {a b : Nat} (ha : Rep a) (hb : Rep b) (h0 : 0 < b) : Rep (a % b) :=
  rep_common ha hb (Nat.mod_le _ _) (Nat.le_of_lt (Nat.mod_lt _ h0)) fun _ h1 h2 => (Nat.dvd_mod_iff h2).2 h1
theorem rep_diff {a b : Nat} (ha : Rep a) (hb : Rep b) (h2 : a ≤ 2 * b) : Rep (a - b) :=
  rep_common ha hb (Nat.sub_le _ _) (by omega) fun _ h1 h2 => Nat.dvd_sub h1 h2
theorem fits_rem {a b : Nat} (ha : Fits a) (hb : Rep b) (h0 : 0 < b) : Fits (a % b) :=
  ⟨rep_rem ha.rep hb h0, Nat.lt_of_le_of_lt (Nat.mod_le _ _) ha.lt⟩
theorem Fits.le {a b : Nat} (h : Fits a) (hb : Rep b) (hle : b ≤ a) : Fits b := ⟨hb, Nat.lt_of_le_of_lt hle h.lt⟩

/-! ### significands of 53 bits -/
def nrm (n : Nat) : Nat := n * 2 ^ 52 / 2 ^ n.log2

theorem log2_53 {m : Nat} (h1 : 2 ^ 52 ≤ m) (h2 : m < 2 ^ 53) : m.log2 = 52 := by
  have h0 : m ≠ 0 := by omega
  have a := (Nat.le_log2 h0).2 h1
  have b := (Nat.log2_lt h0).2 h2
  omega

theorem nrm_of {n c m E : Nat} (h : n * 2 ^ c = m * 2 ^ E) (h1 : 2 ^ 52 ≤ m) (h2 : m < 2 ^ 53) : n.log2 + c = 52 + E ∧ nrm n = m := by
  have h0 : n ≠ 0 := by
    rintro rfl
    rw [Nat.zero_mul] at h
    have := Nat.mul_pos (show 0 < m by omega) (pow_pos E)
    omega
  have hl : n.log2 + c = 52 + E := by
    rw [← log2_mul_pow n c h0, h, log2_mul_pow m E (by omega), log2_53 h1 h2]
  refine ⟨hl, ?_⟩
  have e : n * 2 ^ 52 = m * 2 ^ n.log2 := by
    refine Nat.eq_of_mul_eq_mul_right (pow_pos c) ?_
    rw [Nat.mul_right_comm, h, Nat.mul_assoc, ← Nat.pow_add, Nat.mul_assoc, ← Nat.pow_add]
    congr 2; omega
  unfold nrm
  rw [e, Nat.mul_div_cancel _ (pow_pos _)]

theorem nrm_spec {n : Nat} (h : Rep n) (h0 : 0 < n) : nrm n * 2 ^ n.log2 = n * 2 ^ 52 ∧ 2 ^ 52 ≤ nrm n ∧ nrm n < 2 ^ 53 := by
  have hne : n ≠ 0 := by omega
  have hlo := Nat.log2_self_le hne
  have hhi : n < 2 ^ (n.log2 + 1) := Nat.lt_log2_self
  have key : ∃ c m E, n * 2 ^ c = m * 2 ^ E ∧ 2 ^ 52 ≤ m ∧ m < 2 ^ 53 := by
    obtain ⟨m, t, e, hm, hor⟩ := h.form
    rcases Nat.lt_or_ge m (2 ^ 52) with hl | hl
    · have ht : t = 0 := by omega
      rw [ht, Nat.pow_zero, Nat.mul_one] at e
      have hL : n.log2 < 53 := (Nat.log2_lt hne).2 (by omega)
      refine ⟨52 - n.log2, n * 2 ^ (52 - n.log2), 0, by omega, ?_, ?_⟩
      · have := Nat.mul_le_mul_right (2 ^ (52 - n.log2)) hlo
        rw [← Nat.pow_add, show n.log2 + (52 - n.log2) = 52 by omega] at this
        exact this
      · have := Nat.mul_lt_mul_of_pos_right hhi (pow_pos (52 - n.log2))
        rw [← Nat.pow_add, show n.log2 + 1 + (52 - n.log2) = 53 by omega] at this
        exact this
    · exact ⟨0, m, t, by rw [e]; omega, hl, hm⟩
  obtain ⟨c, m, E, e, h1, h2⟩ := key
  obtain ⟨p1, p2⟩ := nrm_of e h1 h2
  refine ⟨?_, by omega, by omega⟩
  rw [p2]
  refine Nat.eq_of_mul_eq_mul_right (pow_pos c) ?_
  rw [Nat.mul_right_comm n, e, Nat.mul_assoc, ← Nat.pow_add, Nat.mul_assoc, ← Nat.pow_add]
  congr 2; omega

/-- the word of a fraction from 1/2 on, by its significand -/
def frw (n : Nat) : Nat := 1021 * 2 ^ 52 + nrm n
theorem frw_bd {n : Nat} (h : Rep n) (h0 : 0 < n) : 1022 * 2 ^ 52 ≤ frw n ∧ frw n < 1023 * 2 ^ 52 := by
  have := nrm_spec h h0
  unfold frw; omega

/-! ### a step of the division -/
/-- how far the divisor is shifted -/
def shf (n Y : Nat) : Nat := n.log2 - Y.log2 - (if nrm n < nrm Y then 1 else 0)

theorem shf_spec {n Y : Nat} (hn : Rep n) (hY : Rep Y) (h0 : 0 < Y) (hle : Y ≤ n) :
    Y * 2 ^ shf n Y ≤ n ∧ n < 2 * (Y * 2 ^ shf n Y) ∧ Y.log2 + (if nrm n < nrm Y then 1 else 0) ≤ n.log2 := by
  have hn0 : n ≠ 0 := by omega
  have hY0 : Y ≠ 0 := by omega
  obtain ⟨a1, a2, a3⟩ := nrm_spec hn (by omega)
  obtain ⟨b1, b2, b3⟩ := nrm_spec hY h0
  have lo1 := Nat.log2_self_le hn0
  have hi1 : n < 2 ^ (n.log2 + 1) := Nat.lt_log2_self
  have lo2 := Nat.log2_self_le hY0
  have hi2 : Y < 2 ^ (Y.log2 + 1) := Nat.lt_log2_self
  have hL : Y.log2 ≤ n.log2 := by
    rcases Nat.lt_or_ge n.log2 Y.log2 with h | h
    · have := pow_le (show n.log2 + 1 ≤ Y.log2 by omega); omega
    · exact h
  obtain ⟨d, hd⟩ : ∃ d, n.log2 = Y.log2 + d := ⟨n.log2 - Y.log2, by omega⟩
  have cmp : nrm n < nrm Y ↔ n < Y * 2 ^ d := by
    have h1 : (nrm n < nrm Y) ↔ nrm n * 2 ^ n.log2 < nrm Y * 2 ^ n.log2 := (Nat.mul_lt_mul_right (pow_pos _)).symm
    have h2 : nrm Y * 2 ^ n.log2 = Y * 2 ^ d * 2 ^ 52 := by
      rw [hd, Nat.pow_add, ← Nat.mul_assoc, b1, Nat.mul_right_comm]
    rw [h1, a1, h2]
    exact Nat.mul_lt_mul_right (pow_pos 52)
  unfold shf
  by_cases hc : nrm n < nrm Y
  · rw [if_pos hc]
    have h1 := cmp.1 hc
    have hd1 : 1 ≤ d := by
      rcases Nat.eq_zero_or_pos d with h | h
      · rw [h] at h1; omega
      · exact h
    rw [show n.log2 - Y.log2 - 1 = d - 1 by omega]
    have e1 : 2 * (Y * 2 ^ (d - 1)) = Y * 2 ^ d := by
      obtain ⟨k, rfl⟩ : ∃ k, d = k + 1 := ⟨d - 1, by omega⟩
      rw [Nat.pow_succ]; simp only [Nat.add_sub_cancel]
      rw [Nat.mul_comm 2, Nat.mul_assoc]
    refine ⟨?_, by omega, by omega⟩
    have e2 : Y * 2 ^ (d - 1) < 2 ^ (Y.log2 + 1) * 2 ^ (d - 1) := Nat.mul_lt_mul_of_pos_right hi2 (pow_pos _)
    rw [← Nat.pow_add, show Y.log2 + 1 + (d - 1) = n.log2 by omega] at e2
    omega
  · rw [if_neg hc, show n.log2 - Y.log2 - 0 = d by omega]
    have h1 : Y * 2 ^ d ≤ n := by
      rcases Nat.lt_or_ge n (Y * 2 ^ d) with h | h
      · exact absurd (cmp.2 h) hc
      · exact h
    refine ⟨h1, ?_, by omega⟩
    have e2 : 2 ^ Y.log2 * 2 ^ d ≤ Y * 2 ^ d := Nat.mul_le_mul_right _ lo2
    rw [← Nat.pow_add, ← hd] at e2
    rw [Nat.pow_succ] at hi1
    omega

/-- the loop of the division: what is left, its remainder kept -/
theorem mod_step {n Y k : Nat} (h : Y * 2 ^ k ≤ n) : (n - Y * 2 ^ k) % Y = n % Y := by
  have : n = (n - Y * 2 ^ k) + Y * 2 ^ k := by omega
  generalize hz : n - Y * 2 ^ k = z at *
  rw [this, Nat.add_mul_mod_self_left]

/-! ### exact operations on words -/
theorem Fits.wd_lt {n : Nat} (h : Fits n) : wd n < 2 ^ 64 := wd_word h.rep h.lt
theorem Fits.rg {n : Nat} (h : Fits n) : rg (wd n) = wd n := rg_wd h.rep h.lt
theorem Fits.sg {n : Nat} (h : Fits n) : sg (wd n) = false := sg_wd h.rep h.lt
theorem Fits.fin {n : Nat} (h : Fits n) : Flt.rg (wd n) < INF := by rw [h.rg]; exact wd_fin h.rep h.lt
theorem Fits.fv {n : Nat} (h : Fits n) : fv (wd n) = (n : Int) := fv_wd h.rep h.lt
theorem Fits.key {n : Nat} (h : Fits n) : key (wd n) = (wd n : Int) := key_wd h.rep h.lt
theorem Fits.rv {n : Nat} (h : Fits n) : rv (Flt.rg (wd n)) = n := by rw [h.rg, rv_wd h.rep]

theorem rs_int (s : Bool) {n : Nat} (h : Fits n) (T : Int) (hT : T = if s then -(n : Int) else (n : Int)) (s' : Bool) (hz : n = 0 → s' = s) : rs s' T 0 = mk s (wd n) := by
  have := rs_rep h.rep h.lt s 0
  rw [Nat.pow_zero, Nat.mul_one, ← hT] at this
  rw [← this]
  by_cases h0 : n = 0
  · rw [hz h0]
  · unfold rs
    have hne : T ≠ 0 := by rw [hT]; split <;> omega
    rw [if_neg hne, if_neg hne]

theorem sub_wd {a b : Nat} (ha : Fits a) (hb : Fits b) (hle : b ≤ a) (hc : Rep (a - b)) : floatBits .sub .f64 (wd a) (wd b) = some (wd (a - b)) := by
  show double.sub _ _ = _
  rw [sub_fin ha.fin hb.fin, ha.sg, hb.sg, ha.fv, hb.fv]
  have := rs_int false (ha.le hc (Nat.sub_le _ _)) ((a : Int) - b) (by simp; omega) (false && !false) (fun _ => rfl)
  rw [this]; rfl
theorem sub_wd_neg {a b : Nat} (ha : Fits a) (hb : Fits b) (hle : a < b) (hc : Rep (b - a)) : floatBits .sub .f64 (wd a) (wd b) = some (mk true (wd (b - a))) := by
  show double.sub _ _ = _
  rw [sub_fin ha.fin hb.fin, ha.sg, hb.sg, ha.fv, hb.fv]
  have := rs_int true (hb.le hc (Nat.sub_le _ _)) ((a : Int) - b) (by simp; omega) (false && !false) (fun h => by omega)
  rw [this]
theorem add_wd {a b : Nat} (ha : Fits a) (hb : Fits b) (hc : Fits (a + b)) : floatBits .add .f64 (wd a) (wd b) = some (wd (a + b)) := by
  show double.add _ _ = _
  rw [add_fin ha.fin hb.fin, ha.sg, hb.sg, ha.fv, hb.fv]
  have := rs_int false hc ((a : Int) + b) (by simp) (false && false) (fun _ => rfl)
  rw [this]; rfl

theorem ld_up {n k : Nat} (h : Fits (n * 2 ^ k)) : ld (wd n) (k : Int) = wd (n * 2 ^ k) := by
  have hF := h.of_mul
  by_cases h0 : n = 0
  · subst h0
    rw [Nat.zero_mul, wd_zero]
    exact ld_keep (Or.inl rg_zero)
  · have hw : 0 < wd n := by
      rcases Nat.eq_zero_or_pos (wd n) with hz | hz
      · have := rv_wd hF.rep
        rw [hz, rv_zero] at this; omega
      · exact hz
    rw [ld_fin (by rw [hF.rg]; exact hw) hF.fin, hF.sg, hF.rv, lds_of n (a := k) (k := 0) (by omega)]
    have := wd_fin h.rep h.lt
    rw [mk_false]
    exact Nat.min_eq_left (Nat.le_of_lt this)

/-! ### the remainder with the sign of x -/
def modW (x y : Nat) : Nat := if INF ≤ rg x ∨ rg y = 0 ∨ INF < rg y then qNaN else mk (sg x) (wd (rv (rg x) % rv (rg y)))

theorem modW_nan {x y : Nat} (h : INF ≤ rg x ∨ rg y = 0 ∨ INF < rg y) : modW x y = qNaN := by unfold modW; rw [if_pos h]
theorem modW_num {x y : Nat} (h1 : rg x < INF) (h2 : rg y ≠ 0) (h3 : rg y ≤ INF) : modW x y = mk (sg x) (wd (rv (rg x) % rv (rg y))) := by
  unfold modW; rw [if_neg (by omega)]
theorem modW_small {x y : Nat} (hx : x < 2 ^ 64) (h1 : rg x < rg y) (h3 : rg y ≤ INF) : modW x y = x := by
  rw [modW_num (by omega) (by omega) h3, Nat.mod_eq_of_lt (rv_lt h1), ← word_eq hx]
theorem modW_fits {x y : Nat} (h1 : rg x < INF) (h2 : rg y ≠ 0) : Fits (rv (rg x) % rv (rg y)) :=
  fits_rem (fits_rv h1) (rep_rv _) (rv_pos (by omega))
theorem modW_lt {x y : Nat} : modW x y < 2 ^ 64 := by
  unfold modW
  split
  · decide
  · rename_i h
    have hF := modW_fits (x := x) (y := y) (by omega) (by omega)
    exact mkwd_lt _ hF.rep hF.lt

end Go.Proofs.Ytelhgahbhbinoaa.Flt
