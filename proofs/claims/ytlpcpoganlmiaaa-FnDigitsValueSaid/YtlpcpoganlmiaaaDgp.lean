/-
  Plain facts about digits as bits, digits that are cut, and digits added up. No program in sight.
-/
import Derived.Test.YtlpcpoganlmiaaaFld
import Derived.Test.YtlpcpoganlmiaaaFpw
import Derived.Test.YtlpcpoganlmiaaaFrp
namespace Go.Proofs.Ytlpcpoganlmiaaa.Flt
open Ieee

/-- a digit is a bit -/
theorem dg_low {n i : Nat} (h : i ≤ e0) : dg n i = n / 2 ^ (e0 - i) % 2 := by
  unfold dg
  rw [U_eq, show 2 ^ e0 = 2 ^ (e0 - i) * 2 ^ i by rw [← Nat.pow_add]; congr 1; omega, Nat.mul_div_mul_right _ _ (pow_pos i)]
theorem dg_high {n i : Nat} (h : e0 < i) : dg n i = 0 := by
  unfold dg
  rw [U_eq, show 2 ^ i = 2 ^ (i - e0 - 1) * 2 * 2 ^ e0 by rw [← Nat.pow_succ, ← Nat.pow_add]; congr 1; omega, ← Nat.mul_assoc, Nat.mul_div_cancel _ (pow_pos e0), ← Nat.mul_assoc, Nat.mul_mod_left]

/-- the places of the first K digits that are not 0 -/
def plN (n K : Nat) : List Nat := (List.range K).filter fun i => decide (dg n (i + 1) = 1)
theorem plN_succ (n K : Nat) : plN n (K + 1) = plN n K ++ (if dg n (K + 1) = 1 then [K] else []) := by
  unfold plN
  rw [List.range_succ, List.filter_append]
  congr 1
  by_cases h : dg n (K + 1) = 1
  · rw [if_pos h]; simp [h]
  · rw [if_neg h]; simp [h]
theorem plN_dsc (n : Nat) : ∀ K, K ≤ e0 → (plN n K).map (fun i => e0 - 1 - i) ++ dsc n (e0 - K) = dsc n e0 := by
  intro K
  induction K with
  | zero => intro _; rfl
  | succ K ih =>
    intro h
    rw [← ih (by omega), plN_succ, List.map_append, List.append_assoc]
    congr 1
    rw [show e0 - K = (e0 - (K + 1)) + 1 by omega]
    show _ = if n / 2 ^ (e0 - (K + 1)) % 2 = 1 then (e0 - (K + 1)) :: dsc n (e0 - (K + 1)) else dsc n (e0 - (K + 1))
    rw [dg_low h]
    by_cases hb : n / 2 ^ (e0 - (K + 1)) % 2 = 1
    · rw [if_pos hb, if_pos hb]
      show (e0 - 1 - K) :: _ = _
      rw [show e0 - 1 - K = e0 - (K + 1) by omega]
      rfl
    · rw [if_neg hb, if_neg hb]; rfl
theorem plN_all (n d : Nat) : plN n (e0 + d) = plN n e0 := by
  induction d with
  | zero => rfl
  | succ d ih =>
    rw [← Nat.add_assoc, plN_succ, ih, dg_high (by omega), if_neg (by decide), List.append_nil]
theorem plN_full (n d : Nat) : (plN n (e0 + d)).map (fun i => e0 - 1 - i) = dsc n e0 := by
  have := plN_dsc n e0 (Nat.le_refl _)
  rw [Nat.sub_self] at this
  rw [plN_all, ← this]
  show _ = _ ++ []
  rw [List.append_nil]
theorem plN_lt {n d i : Nat} (h : i ∈ plN n (e0 + d)) : i < e0 := by
  rw [plN_all] at h
  exact List.mem_range.1 (List.mem_filter.1 h).1

theorem dsc_lt {n : Nat} : ∀ K, ∀ j ∈ dsc n K, j < K := by
  intro K
  induction K with
  | zero => intro j h; cases h
  | succ K ih =>
    intro j h
    unfold dsc at h
    split at h
    · rcases List.mem_cons.1 h with h | h
      · omega
      · have := ih j h; omega
    · have := ih j h; omega
theorem dsc_filter (n : Nat) (e : Nat) : ∀ d, (dsc n (e + d)).filter (fun j => decide (j < e)) = dsc n e := by
  intro d
  induction d with
  | zero => exact List.filter_eq_self.2 fun j hj => by simp [dsc_lt e j hj]
  | succ d ih =>
    show (if n / 2 ^ (e + d) % 2 = 1 then (e + d) :: dsc n (e + d) else dsc n (e + d)).filter (fun j => decide (j < e)) = dsc n e
    split
    · rw [List.filter_cons, if_neg (by simp), ih]
    · exact ih
theorem pws_low {n : Nat} (h : n < TOP) : (pws n).filter (fun j => decide (j < e0)) = dsc n e0 := by
  rw [TOP_eq, Nat.add_comm] at h
  rw [pws_dsc _ n h, dsc_filter]

/-- digits behind a cut -/
theorem dg_cut (n k i : Nat) (hi : 0 < i) : dg (n % U * 2 ^ k) i = dg n (k + i) := by
  unfold dg
  have hU := U_pos
  rw [Nat.mul_assoc, ← Nat.pow_add]
  have e : n * 2 ^ (k + i) = n % U * 2 ^ (k + i) + U * (n / U * 2 ^ (k + i)) := by
    rw [← Nat.mul_assoc, ← Nat.add_mul, Nat.mod_add_div]
  rw [e, Nat.add_mul_div_left _ _ hU]
  obtain ⟨j, rfl⟩ : ∃ j, i = j + 1 := ⟨i - 1, by omega⟩
  have e2 : n / U * 2 ^ (k + (j + 1)) = 2 * (n / U * 2 ^ (k + j)) := by
    rw [← Nat.add_assoc, Nat.pow_succ, ← Nat.mul_assoc, Nat.mul_comm]
  rw [e2]
  generalize n % U * 2 ^ (k + (j + 1)) / U = a
  generalize n / U * 2 ^ (k + j) = b
  omega
theorem sdg_cut (s : Bool) (n k i : Nat) (hi : 0 < i) : sdg s (n % U * 2 ^ k) i = sdg s n (k + i) := by
  unfold sdg; rw [dg_cut n k i hi]
/-- the fraction times a power of 2 -/
theorem ld_frac {x : Nat} (h : rg x < INF) {k : Nat} (hk : k ≤ 1000) : rg (ld (fpart x) (k : Int)) < INF ∧ sg (ld (fpart x) (k : Int)) = sg x ∧ rv (rg (ld (fpart x) (k : Int))) = rv (rg x) % U * 2 ^ k ∧ ld (fpart x) (k : Int) < 2 ^ 64 := by
  have hl := fpart_lt h
  have hm := fits_mod (fits_rv h)
  have hU := Nat.mod_lt (rv (rg x)) U_pos
  have hF : Fits (rv (rg x) % U * 2 ^ k) := ⟨hm.rep.mul_pow k, by
    have h1 : rv (rg x) % U * 2 ^ k < 2 ^ e0 * 2 ^ k := Nat.mul_lt_mul_of_pos_right (by rw [← U_eq]; exact hU) (pow_pos k)
    rw [← Nat.pow_add] at h1
    rw [TOP_eq]
    exact Nat.lt_of_lt_of_le h1 (pow_le (by omega))⟩
  have hsg : sg (ld (fpart x) (k : Int)) = sg x := by rw [sg_ld _ hl, sg_fpart h]
  have hrg : rg (ld (fpart x) (k : Int)) = wd (rv (rg x) % U * 2 ^ k) := by
    have h1 := congrArg rg (ld_up hF)
    rw [hF.rg, rg_ld _ hm.wd_lt, hm.rg] at h1
    rw [rg_ld _ hl]
    have : rg (fpart x) = wd (rv (rg x) % U) := by unfold fpart; rw [rg_mkwd _ hm.rep hm.lt]
    rw [this, h1]
  refine ⟨?_, hsg, ?_, ld_lt _ hl⟩
  · rw [hrg]; exact wd_fin hF.rep hF.lt
  · rw [hrg, rv_wd hF.rep]

/-- cut at a power of 2 -/
theorem rep_cut {n t : Nat} (h : Rep n) : Rep (n / 2 ^ t * 2 ^ t) ∧ Rep (n % 2 ^ t) := by
  obtain ⟨m, u, e, hm, _⟩ := h.form
  rw [e]
  rcases Nat.lt_or_ge u t with ht | ht
  · have e1 : m * 2 ^ u / 2 ^ t = m / 2 ^ (t - u) := by
      rw [show 2 ^ t = 2 ^ (t - u) * 2 ^ u by rw [← Nat.pow_add]; congr 1; omega, Nat.mul_div_mul_right _ _ (pow_pos u)]
    have e2 : m * 2 ^ u % 2 ^ t = m % 2 ^ (t - u) * 2 ^ u := by
      rw [show 2 ^ t = 2 ^ (t - u) * 2 ^ u by rw [← Nat.pow_add]; congr 1; omega, Nat.mul_mod_mul_right]
    rw [e1, e2]
    exact ⟨rep_of _ (Nat.le_trans (Nat.div_le_self _ _) (by omega)), rep_of _ (Nat.le_trans (Nat.mod_le _ _) (by omega))⟩
  · have e0' : m * 2 ^ u = m * 2 ^ (u - t) * 2 ^ t := by rw [Nat.mul_assoc, ← Nat.pow_add]; congr 2; omega
    refine ⟨?_, ?_⟩
    · rw [e0', Nat.mul_div_cancel _ (pow_pos t), ← e0']; exact rep_of _ (by omega)
    · rw [e0', Nat.mul_mod_left]; exact rep_zero

/-- the fraction behind i digits, cut behind N digits -/
def vlu (n N i : Nat) : Nat := n * 2 ^ i % U / 2 ^ (e0 - (N - i)) * 2 ^ (e0 - (N - i))
theorem vlu_end (n N : Nat) : vlu n N N = 0 := by
  unfold vlu
  have : n * 2 ^ N % U / 2 ^ (e0 - (N - N)) = 0 := by
    rw [Nat.sub_self, Nat.sub_zero, ← U_eq]; exact Nat.div_eq_of_lt (Nat.mod_lt _ U_pos)
  rw [this, Nat.zero_mul]
theorem vlu_lt (n N i : Nat) : vlu n N i < U := Nat.lt_of_le_of_lt (Nat.div_mul_le_self _ _) (Nat.mod_lt _ U_pos)
theorem vlu_rep {n : Nat} (h : Rep n) (N i : Nat) : Rep (vlu n N i) := (rep_cut (by rw [U_eq]; exact (rep_cut (h.mul_pow i)).2)).1
/-- one digit more -/
theorem vlu_step {n N i : Nat} (h : i < N) : vlu n N (i + 1) + dg n (i + 1) * U = 2 * vlu n N i := by
  have hU := U_pos
  have hs := frac_step n i
  have hd := dg_step n i
  have hdm := Nat.div_add_mod (2 * (n * 2 ^ i % U)) U
  rw [hs, hd] at hdm
  unfold vlu
  generalize n * 2 ^ (i + 1) % U = G at *
  generalize n * 2 ^ i % U = F at *
  generalize dg n (i + 1) = d at *
  rcases Nat.lt_or_ge (N - i) (e0 + 1) with hlt | hge
  · obtain ⟨t, ht⟩ : ∃ t, e0 - (N - i) = t := ⟨_, rfl⟩
    have e1 : e0 - (N - (i + 1)) = t + 1 := by omega
    rw [e1, ht]
    have hdv : U = 2 ^ (t + 1) * 2 ^ (e0 - (t + 1)) := by rw [U_eq, ← Nat.pow_add]; congr 1; omega
    have e2 : 2 * F / 2 ^ (t + 1) = F / 2 ^ t := by rw [Nat.pow_succ, Nat.mul_comm (2 ^ t) 2, Nat.mul_div_mul_left _ _ (by decide)]
    have e3 : 2 * (F / 2 ^ t * 2 ^ t) = F / 2 ^ t * 2 ^ (t + 1) := by rw [Nat.pow_succ, Nat.mul_comm 2, Nat.mul_assoc]
    rw [e3, ← e2, ← hdm]
    have e4 : (U * d + G) / 2 ^ (t + 1) = d * 2 ^ (e0 - (t + 1)) + G / 2 ^ (t + 1) := by
      rw [show U * d + G = G + 2 ^ (t + 1) * (d * 2 ^ (e0 - (t + 1))) by
        rw [Nat.mul_left_comm, ← hdv, Nat.mul_comm d, Nat.add_comm], Nat.add_mul_div_left _ _ (pow_pos _), Nat.add_comm]
    rw [e4, Nat.add_mul, Nat.mul_assoc, Nat.mul_comm (2 ^ (e0 - (t + 1))), ← hdv, Nat.add_comm]
  · have e1 : e0 - (N - (i + 1)) = 0 := by omega
    have e2 : e0 - (N - i) = 0 := by omega
    rw [e1, e2, Nat.pow_zero, Nat.div_one, Nat.div_one, Nat.mul_one, Nat.mul_one, ← hdm, Nat.mul_comm, Nat.add_comm]
/-- what is left of the fraction -/
theorem vlu_rest (n N : Nat) : n % U = vlu n N 0 + n % U % 2 ^ (e0 - N) := by
  unfold vlu
  rw [Nat.pow_zero, Nat.mul_one, Nat.sub_zero, Nat.mul_comm, Nat.div_add_mod]
theorem vlu_le (n N i : Nat) : vlu n N i ≤ n * 2 ^ i % U := Nat.div_mul_le_self _ _
end Go.Proofs.Ytlpcpoganlmiaaa.Flt
