/-
  Plain facts behind impl.Powers: the powers of 2 in a natural number, the greatest first. No program in sight.
-/
import Derived.Test.YtlpcpoganlmiaaaFrp
namespace Go.Proofs.Ytlpcpoganlmiaaa.Flt
open Ieee
set_option linter.unusedVariables false

theorem sub_log2_lt {n : Nat} (h : n ≠ 0) : n - 2 ^ n.log2 < n := by
  have := pow_pos n.log2; omega

/-- the exponents of the powers of 2 in a natural number -/
def pws (n : Nat) : List Nat := if h : n = 0 then [] else n.log2 :: pws (n - 2 ^ n.log2)
termination_by n
decreasing_by exact sub_log2_lt h

theorem pws_zero : pws 0 = [] := by rw [pws, dif_pos rfl]
theorem pws_pos {n : Nat} (h : n ≠ 0) : pws n = n.log2 :: pws (n - 2 ^ n.log2) := by rw [pws, dif_neg h]

theorem pws_mul (k : Nat) : ∀ n, pws (n * 2 ^ k) = (pws n).map (· + k) := by
  intro n
  induction n using Nat.strongRecOn with
  | _ n ih =>
    by_cases h : n = 0
    · rw [h, Nat.zero_mul, pws_zero]; rfl
    · have h1 : n * 2 ^ k ≠ 0 := Nat.mul_ne_zero h (Nat.ne_of_gt (pow_pos k))
      rw [pws_pos h1, pws_pos h, log2_mul_pow n k h, Nat.pow_add, ← Nat.mul_sub_right_distrib, ih _ (sub_log2_lt h)]
      rfl

theorem pws_pow (k : Nat) : pws (2 ^ k) = [k] := by
  have h : 2 ^ k ≠ 0 := Nat.ne_of_gt (pow_pos k)
  rw [pws_pos h, Nat.log2_two_pow, Nat.sub_self, pws_zero]

theorem rest_lt {n : Nat} (h : n ≠ 0) : n - 2 ^ n.log2 < 2 ^ n.log2 := by
  have : n < 2 ^ (n.log2 + 1) := Nat.lt_log2_self
  rw [Nat.pow_succ] at this
  omega

/-- all exponents are below the number's length -/
theorem pws_lt : ∀ (n K : Nat), n < 2 ^ K → ∀ j ∈ pws n, j < K := by
  intro n
  induction n using Nat.strongRecOn with
  | _ n ih =>
    intro K hK j hj
    by_cases h : n = 0
    · rw [h, pws_zero] at hj; cases hj
    · rw [pws_pos h] at hj
      have hl : n.log2 < K := (Nat.log2_lt h).2 hK
      rcases List.mem_cons.1 hj with rfl | hj
      · exact hl
      · exact Nat.lt_trans (ih _ (sub_log2_lt h) n.log2 (rest_lt h) j hj) hl

/-- the bits of a number, from the place K - 1 down -/
def dsc (n : Nat) : Nat → List Nat
  | 0 => []
  | K + 1 => if n / 2 ^ K % 2 = 1 then K :: dsc n K else dsc n K

theorem dsc_congr {n m : Nat} : ∀ K, (∀ j, j < K → n / 2 ^ j % 2 = m / 2 ^ j % 2) → dsc n K = dsc m K := by
  intro K
  induction K with
  | zero => intro _; rfl
  | succ K ih =>
    intro h
    unfold dsc
    rw [h K (by omega), ih (fun j hj => h j (by omega))]

theorem bit_low {n L j : Nat} (hj : j < L) (h : 2 ^ L ≤ n) : (n - 2 ^ L) / 2 ^ j % 2 = n / 2 ^ j % 2 := by
  obtain ⟨d, rfl⟩ : ∃ d, L = j + (d + 1) := ⟨L - j - 1, by omega⟩
  have e : 2 ^ (j + (d + 1)) = 2 ^ j * (2 * 2 ^ d) := by rw [Nat.pow_add, Nat.pow_succ]; congr 1; omega
  obtain ⟨r, rfl⟩ : ∃ r, n = r + 2 ^ (j + (d + 1)) := ⟨n - 2 ^ (j + (d + 1)), by omega⟩
  rw [Nat.add_sub_cancel, e, Nat.add_mul_div_left _ _ (pow_pos j)]
  omega

theorem pws_dsc : ∀ (K n : Nat), n < 2 ^ K → pws n = dsc n K := by
  intro K
  induction K with
  | zero =>
    intro n h
    have : n = 0 := by rw [Nat.pow_zero] at h; omega
    rw [this, pws_zero]; rfl
  | succ K ih =>
    intro n h
    rw [Nat.pow_succ] at h
    unfold dsc
    rcases Nat.lt_or_ge n (2 ^ K) with hl | hl
    · rw [Nat.div_eq_of_lt hl, if_neg (by decide)]
      exact ih n hl
    · have h0 : n ≠ 0 := by have := pow_pos K; omega
      have hL : n.log2 = K := by
        have a := (Nat.le_log2 h0).2 hl
        have b := (Nat.log2_lt h0).2 (show n < 2 ^ (K + 1) by rw [Nat.pow_succ]; omega)
        omega
      have hd : n / 2 ^ K = 1 := by
        refine Nat.div_eq_of_lt_le (by omega) (by omega)
      rw [hd, if_pos (by decide), pws_pos h0, hL]
      congr 1
      rw [ih _ (by omega)]
      exact dsc_congr K fun j hj => bit_low hj hl

/-- a step of impl.Powers: half, scaled -/
theorem half_ld (s : Bool) {L : Nat} (hL : 2 ^ L < TOP) : ld (mk s (1022 * 2 ^ 52)) ((L : Int) - 1073) = mk s (wd (2 ^ L)) := by
  have hF : Fits (2 ^ L) := ⟨rep_pow L, hL⟩
  have hI := INF_val
  have e1 : rg (mk s (1022 * 2 ^ 52)) = 1022 * 2 ^ 52 := rg_mk s (by decide)
  have e2 : sg (mk s (1022 * 2 ^ 52)) = s := sg_mk s (by decide)
  rw [ld_fin (by rw [e1]; decide) (by rw [e1]; decide), e1, e2]
  obtain ⟨E, hE⟩ : ∃ E, E = 1022 := ⟨_, rfl⟩
  obtain ⟨F, hFE⟩ : ∃ F, F = 51 + E := ⟨_, rfl⟩
  rw [← hE, rv_pow E (by omega), ← hFE, lds_of (2 ^ F) (a := L) (k := F) (by omega)]
  have := ru_scale (2 ^ L) 0 F
  rw [Nat.zero_add, Nat.mul_comm] at this
  rw [this]
  congr 1
  exact Nat.min_eq_left (Nat.le_of_lt (wd_fin hF.rep hF.lt))

/-- where impl.Powers has come to -/
structure PwSt (s : Bool) (n x : Nat) : Prop where
  lt : x < 2 ^ 64
  fin : rg x < INF
  val : rv (rg x) = n
  sign : n ≠ 0 → sg x = s

theorem PwSt.start {x : Nat} (hx : x < 2 ^ 64) (hf : rg x < INF) : PwSt (sg x) (rv (rg x)) x := ⟨hx, hf, rfl, fun _ => rfl⟩

theorem PwSt.step {s : Bool} {n x : Nat} (h : PwSt s n x) (h0 : n ≠ 0) : ∃ y, floatBits .sub .f64 x (Flt.mk s (wd (2 ^ n.log2))) = some y ∧ PwSt s (n - 2 ^ n.log2) y := by
  have hle := Nat.log2_self_le h0
  have hFn : Fits n := by rw [← h.val]; exact fits_rv h.fin
  have hFp : Fits (2 ^ n.log2) := hFn.le (rep_pow _) hle
  have hhi : n < 2 ^ (n.log2 + 1) := Nat.lt_log2_self
  rw [Nat.pow_succ] at hhi
  have hFd : Fits (n - 2 ^ n.log2) := hFn.le (rep_diff hFn.rep hFp.rep (by omega)) (Nat.sub_le _ _)
  have hx : x = Flt.mk s (wd n) := by rw [word_eq h.lt, h.val, h.sign h0]
  generalize 2 ^ n.log2 = p at *
  have hs := sub_fin h.fin (show rg (Flt.mk s (wd p)) < INF from fin_mkwd s hFp.rep hFp.lt)
  have e1 : fv x = if s then -(n : Int) else (n : Int)   := by rw [hx]; exact fv_mkwd s hFn.rep hFn.lt
  have e2 := fv_mkwd s hFp.rep hFp.lt
  by_cases hz : n - p = 0
  · refine ⟨_, hs, rs_lt _ _ _, ?_, ?_, fun h => absurd hz h⟩
    all_goals
      have hT : fv x - fv (Flt.mk s (wd p)) = 0 := by rw [e1, e2]; split <;> omega
      rw [rg_rs, hT, Int.natAbs_zero, ru_zero, Nat.min_eq_left (Nat.zero_le _)]
    · decide
    · rw [rv_zero, hz]
  · have := rs_int s hFd (fv x - fv (Flt.mk s (wd p))) (by rw [e1, e2]; split <;> omega) (sg x && !sg (Flt.mk s (wd p))) (fun h => absurd h hz)
    refine ⟨Flt.mk s (wd (n - p)), ?_, mkwd_lt _ hFd.rep hFd.lt, fin_mkwd _ hFd.rep hFd.lt, ?_, fun _ => sg_mkwd _ hFd.rep hFd.lt⟩
    · rw [← this]; exact hs
    · rw [rg_mkwd _ hFd.rep hFd.lt, rv_wd hFd.rep]

/-- the exponents of a number of the format span 53 places -/
theorem pws_span {n : Nat} (h : Rep n) : ∀ j ∈ pws n, n.log2 ≤ j + 52 := by
  intro j hj
  obtain ⟨m, t, e, hm, _⟩ := h.form
  by_cases hm0 : m = 0
  · rw [e, hm0, Nat.zero_mul, pws_zero] at hj; cases hj
  · have hl : m.log2 < 53 := (Nat.log2_lt hm0).2 hm
    rw [e, pws_mul] at hj
    obtain ⟨i, _, rfl⟩ := List.mem_map.1 hj
    rw [e, log2_mul_pow m t hm0]
    omega

theorem pws_len {n : Nat} (h : Rep n) : (pws n).length ≤ 53 := by
  obtain ⟨m, t, e, hm, _⟩ := h.form
  rw [e, pws_mul, List.length_map, pws_dsc 53 m hm]
  have : ∀ K, (dsc m K).length ≤ K := by
    intro K
    induction K with
    | zero => exact Nat.le_refl _
    | succ K ih =>
      unfold dsc
      split
      · rw [List.length_cons]; omega
      · omega
  exact this 53

end Go.Proofs.Ytlpcpoganlmiaaa.Flt
