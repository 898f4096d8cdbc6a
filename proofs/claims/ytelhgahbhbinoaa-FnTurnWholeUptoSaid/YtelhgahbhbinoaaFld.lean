/-
  Plain facts about the integer and the fractional part of a word, and about its digits. No program in sight.
-/
import Derived.Test.YtelhgahbhbinoaaFln
namespace Go.Proofs.Ytelhgahbhbinoaa.Flt
open Ieee

theorem rep_div {n : Nat} (h : Rep n) : Rep (n / U * U) := by
  obtain ⟨r, rfl⟩ := h
  obtain ⟨m, t, e, hm, _⟩ := rv_form r
  rw [e, U_eq]
  rcases Nat.lt_or_ge t e0 with ht | ht
  · have : m * 2 ^ t / 2 ^ e0 = m / 2 ^ (e0 - t) := by
      rw [show 2 ^ e0 = 2 ^ t * 2 ^ (e0 - t) by rw [← Nat.pow_add]; congr 1; omega, Nat.mul_comm m, Nat.mul_div_mul_left _ _ (pow_pos t)]
    rw [this]
    exact rep_of _ (Nat.le_trans (Nat.div_le_self _ _) (by omega))
  · have : m * 2 ^ t / 2 ^ e0 * 2 ^ e0 = m * 2 ^ t := by
      rw [show m * 2 ^ t = m * 2 ^ (t - e0) * 2 ^ e0 by rw [Nat.mul_assoc, ← Nat.pow_add]; congr 2; omega, Nat.mul_div_cancel _ (pow_pos e0)]
    rw [this]
    exact rep_of _ (by omega)
theorem rep_mod {n : Nat} (h : Rep n) : Rep (n % U) := by
  obtain ⟨r, rfl⟩ := h
  obtain ⟨m, t, e, hm, _⟩ := rv_form r
  rw [e, U_eq]
  rcases Nat.lt_or_ge t e0 with ht | ht
  · have : m * 2 ^ t % 2 ^ e0 = m % 2 ^ (e0 - t) * 2 ^ t := by
      rw [show 2 ^ e0 = 2 ^ (e0 - t) * 2 ^ t by rw [← Nat.pow_add]; congr 1; omega, Nat.mul_mod_mul_right]
    rw [this]
    exact rep_of _ (Nat.le_trans (Nat.mod_le _ _) (by omega))
  · have : m * 2 ^ t % 2 ^ e0 = 0 := by
      rw [show m * 2 ^ t = m * 2 ^ (t - e0) * 2 ^ e0 by rw [Nat.mul_assoc, ← Nat.pow_add]; congr 2; omega, Nat.mul_mod_left]
    rw [this]
    exact rep_zero
theorem fits_div {n : Nat} (h : Fits n) : Fits (n / U * U) := ⟨rep_div h.rep, Nat.lt_of_le_of_lt (Nat.div_mul_le_self _ _) h.lt⟩
theorem fits_mod {n : Nat} (h : Fits n) : Fits (n % U) := ⟨rep_mod h.rep, Nat.lt_of_le_of_lt (Nat.mod_le _ _) h.lt⟩
theorem U_TOP : U * 4 < TOP := by
  rw [U_eq, TOP_eq]
  have : 2 ^ e0 * 4 = 2 ^ (2 + e0) := by rw [Nat.pow_add]; omega
  rw [this]; exact pow_lt (by omega)

/-- the integer part -/
def ipart (x : Nat) : Nat := mk (sg x) (wd (rv (rg x) / U * U))
/-- the fractional part -/
def fpart (x : Nat) : Nat := mk (sg x) (wd (rv (rg x) % U))

theorem trunc_eq {x : Nat} (h : rg x < INF) : FloatKind.f64.encode ((FloatKind.f64.decode x).integral .zero) = ipart x := by
  obtain ⟨m, e, hr, hm, _, _⟩ := read_fin h
  have e1 : FloatKind.f64.decode x = double.read x := rfl
  rw [e1, hr]
  show double.write _ = _
  simp only [Datum.integral, cut_div hm, Format.write]
  have he := e0_eq
  rw [nearest_eq _ _ 0 e0 0 (by omega), ← U_eq]
  have hF := fits_div (fits_rv h)
  unfold ipart
  show mk _ (min (wd _) INF) = _
  rw [Nat.min_eq_left (Nat.le_of_lt (wd_fin hF.rep hF.lt))]

theorem ipart_lt {x : Nat} (h : rg x < INF) : ipart x < 2 ^ 64 := mkwd_lt _ (fits_div (fits_rv h)).rep (fits_div (fits_rv h)).lt
theorem fpart_lt {x : Nat} (h : rg x < INF) : fpart x < 2 ^ 64 := mkwd_lt _ (fits_mod (fits_rv h)).rep (fits_mod (fits_rv h)).lt
theorem rv_fpart {x : Nat} (h : rg x < INF) : rv (rg (fpart x)) = rv (rg x) % U := by
  have hF := fits_mod (fits_rv h)
  unfold fpart; rw [rg_mkwd _ hF.rep hF.lt, rv_wd hF.rep]
theorem rv_ipart {x : Nat} (h : rg x < INF) : rv (rg (ipart x)) = rv (rg x) / U * U := by
  have hF := fits_div (fits_rv h)
  unfold ipart; rw [rg_mkwd _ hF.rep hF.lt, rv_wd hF.rep]
theorem sg_fpart {x : Nat} (h : rg x < INF) : sg (fpart x) = sg x := by
  have hF := fits_mod (fits_rv h)
  unfold fpart; rw [sg_mkwd _ hF.rep hF.lt]
theorem sg_ipart {x : Nat} (h : rg x < INF) : sg (ipart x) = sg x := by
  have hF := fits_div (fits_rv h)
  unfold ipart; rw [sg_mkwd _ hF.rep hF.lt]
theorem fin_fpart {x : Nat} (h : rg x < INF) : rg (fpart x) < INF := by
  have hF := fits_mod (fits_rv h)
  unfold fpart; rw [rg_mkwd _ hF.rep hF.lt]; exact wd_fin hF.rep hF.lt
theorem fin_ipart {x : Nat} (h : rg x < INF) : rg (ipart x) < INF := by
  have hF := fits_div (fits_rv h)
  unfold ipart; rw [rg_mkwd _ hF.rep hF.lt]; exact wd_fin hF.rep hF.lt

/-- x less its integer part, but for a nought's sign -/
theorem sub_ipart {x : Nat} (h : rg x < INF) : ∃ r, floatBits .sub .f64 x (ipart x) = some r ∧ r < 2 ^ 64 ∧ mk (sg x) (rg r) = fpart x := by
  have hF := fits_mod (fits_rv h)
  refine ⟨_, sub_fin h (fin_ipart h), rs_lt _ _ _, ?_⟩
  rw [rg_rs]
  have hv : (fv x - fv (ipart x)).natAbs = rv (rg x) % U := by
    unfold fv
    rw [sg_ipart h, rv_ipart h]
    have hd := Nat.div_add_mod (rv (rg x)) U
    rw [Nat.mul_comm] at hd
    generalize rv (rg x) / U * U = a at *
    generalize rv (rg x) % U = b at *
    split <;> omega
  rw [hv]
  show mk _ (min (wd _) INF) = _
  rw [Nat.min_eq_left (Nat.le_of_lt (wd_fin hF.rep hF.lt))]
  rfl

/-- a fractional part, doubled -/
theorem add_self_frac {x : Nat} (h : rv (rg x) < U) (hf : rg x < INF) : ∃ r, floatBits .add .f64 x x = some r ∧ r < 2 ^ 64 ∧ sg r = sg x ∧ rg r < INF ∧ rv (rg r) = 2 * rv (rg x) := by
  have hF : Fits (rv (rg x) * 2 ^ 1) := ⟨(rep_rv _).mul_pow 1, by have := U_TOP; omega⟩
  have he : floatBits .add .f64 x x = some (mk (sg x) (wd (rv (rg x) * 2 ^ 1))) := by
    show double.add x x = _
    rw [add_fin hf hf, Bool.and_self]
    have := rs_rep hF.rep hF.lt (sg x) 0
    rw [← this]
    congr 2
    unfold fv
    split <;> simp <;> omega
  refine ⟨_, he, mkwd_lt _ hF.rep hF.lt, sg_mkwd _ hF.rep hF.lt, ?_, ?_⟩
  · rw [rg_mkwd _ hF.rep hF.lt]; exact wd_fin hF.rep hF.lt
  · rw [rg_mkwd _ hF.rep hF.lt, rv_wd hF.rep]; omega

/-! ### digits -/
/-- the digit at the place -i -/
def dg (n i : Nat) : Nat := n * 2 ^ i / U % 2
theorem dg_lt (n i : Nat) : dg n i < 2 := Nat.mod_lt _ (by decide)
/-- the fraction behind k digits -/
theorem frac_step (n k : Nat) : 2 * (n * 2 ^ k % U) % U = n * 2 ^ (k + 1) % U := by
  rw [Nat.pow_succ, ← Nat.mul_assoc, Nat.mul_comm _ 2]
  rw [Nat.mul_mod 2 (n * 2 ^ k % U), Nat.mod_mod, ← Nat.mul_mod]
theorem dg_step (n k : Nat) : 2 * (n * 2 ^ k % U) / U = dg n (k + 1) := by
  unfold dg
  have hU := U_pos
  have hd := Nat.div_add_mod (n * 2 ^ k) U
  have hm := Nat.mod_lt (n * 2 ^ k) hU
  rw [Nat.pow_succ, ← Nat.mul_assoc, Nat.mul_comm _ 2]
  generalize n * 2 ^ k % U = b at *
  generalize n * 2 ^ k / U = a at *
  have e : 2 * (n * 2 ^ k) = 2 * b + U * (2 * a) := by rw [← hd, Nat.mul_add, Nat.mul_left_comm]; omega
  rw [e, Nat.add_mul_div_left _ _ hU]
  have : 2 * b / U < 2 := by rw [Nat.div_lt_iff_lt_mul hU]; omega
  generalize 2 * b / U = q at *
  omega

/-- a signed digit -/
def sdg (s : Bool) (n i : Nat) : Int := if s then -(dg n i : Int) else (dg n i : Int)

theorem toI64_ipart {x : Nat} (h : rg x < INF) (hs : rv (rg x) / U < 2) : floatToIntVal .f64 (ipart x) .i64 = some (if sg x then -((rv (rg x) / U : Nat) : Int) else ((rv (rg x) / U : Nat) : Int)) := by
  unfold floatToIntVal
  rw [toInt_fin (fin_ipart h), sg_ipart h, rv_ipart h, Nat.mul_div_cancel _ U_pos]
  generalize rv (rg x) / U = q at *
  have h1 : IntKind.i64.min = -9223372036854775808 := rfl
  have h2 : IntKind.i64.max = 9223372036854775807 := rfl
  show (if _ then _ else _) = _
  rw [h1, h2, if_pos (by split <;> omega)]

end Go.Proofs.Ytelhgahbhbinoaa.Flt
