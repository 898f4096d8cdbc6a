/-
  Plain facts: words times and divided by the constants of the thin package's reference, as the walk spells them. No program in sight.
-/
import Derived.Test.YtelhgahbhbinoaaFlr
namespace Go.Proofs.Ytelhgahbhbinoaa.Flt
open Ieee

theorem fv_pow {E : Nat} (h1 : 1 ≤ E) (h2 : E ≤ 2046) : fv (E * 2 ^ 52) = ((2 ^ (51 + E) : Nat) : Int) := by
  have h := fv_wd (rep_pow (51 + E)) (pow_TOP (by have := e0_eq; omega))
  rw [wd_pow E h1] at h; exact h
theorem rg_pow {E : Nat} (h2 : E ≤ 2046) : rg (E * 2 ^ 52) = E * 2 ^ 52 := by
  unfold rg; exact Nat.mod_eq_of_lt (by omega)
theorem rg_pow_lt {E : Nat} (h2 : E ≤ 2046) : rg (E * 2 ^ 52) < INF := by
  rw [rg_pow h2]; unfold INF; omega
theorem sg_pow {E : Nat} (h2 : E ≤ 2046) : sg (E * 2 ^ 52) = false := by
  have : mk false (E * 2 ^ 52) = E * 2 ^ 52 := rfl
  rw [← this, sg_mk _ (by omega)]

/-- times a power of 2 -/
theorem mul_pow {a E : Nat} (ha : rg a < INF) (h1 : 1 ≤ E) (h2 : E ≤ 2046) : double.mul a (E * 2 ^ 52) = some (rs (sg a) (fv a * ((2 ^ (51 + E) : Nat) : Int)) e0) := by
  rw [mul_fin ha (rg_pow_lt h2), fv_pow h1 h2, sg_pow h2, Bool.xor_false]

theorem mul_wd {n E j : Nat} (h : Rep n) (hn : n * 2 ^ j < TOP) (h2 : E ≤ 2046) (hE : 51 + E = j + e0) : floatBits .mul .f64 (wd n) (E * 2 ^ 52) = some (wd (n * 2 ^ j)) := by
  have hn' : n < TOP := Nat.lt_of_le_of_lt (Nat.le_mul_of_pos_right _ (pow_pos j)) hn
  show double.mul _ _ = _
  have he := e0_eq
  rw [mul_pow (by rw [rg_wd h hn']; exact wd_fin h hn') (by omega) h2, sg_wd h hn', fv_wd h hn', hE, ← Int.natCast_mul]
  have := rs_rep (h.mul_pow j) hn false e0
  simp only [Bool.false_eq_true, if_false, mk_false] at this
  rw [Nat.mul_assoc, ← Nat.pow_add] at this
  rw [this]

theorem quo_wd {n E j : Nat} (h : Rep n) (hn : n * 2 ^ j < TOP) (h1 : 1 ≤ E) (h2 : E ≤ 2046) (hE : 51 + E = j + e0) : floatBits .quo .f64 (wd (n * 2 ^ j)) (E * 2 ^ 52) = some (wd n) := by
  have hn' : n < TOP := Nat.lt_of_le_of_lt (Nat.le_mul_of_pos_right _ (pow_pos j)) hn
  show double.div _ _ = _
  have he := e0_eq
  have hr : double.read (E * 2 ^ 52) = .number false (2 ^ 52) ((j : Int) - 52) := by
    rw [read_pow h1 h2]; congr 1; omega
  rw [div_pow (by rw [rg_wd (h.mul_pow j) hn]; exact wd_fin (h.mul_pow j) hn) hr, sg_wd (h.mul_pow j) hn, fv_wd (h.mul_pow j) hn]
  have := rs_rep h hn' false j
  simp only [Bool.false_eq_true, if_false, mk_false] at this
  rw [this]

section
variable {n E : Nat} (h : Rep n) (hn : n < TOP) (h1 : 1 ≤ E) (h2 : E ≤ 2046)
include h hn h1 h2
theorem key_pow_le : key (E * 2 ^ 52) ≤ key (wd n) ↔ 2 ^ (51 + E) ≤ n := by
  have hp := rep_pow (51 + E)
  have hpT : 2 ^ (51 + E) < TOP := pow_TOP (by have := e0_eq; omega)
  rw [← wd_pow E h1, key_wd hp hpT, key_wd h hn]
  have := wd_le_iff hp h
  omega
theorem ge_pow : (FloatKind.f64.format.order (wd n) (E * 2 ^ 52) == some .gt || FloatKind.f64.format.order (wd n) (E * 2 ^ 52) == some .eq) = decide (2 ^ (51 + E) ≤ n) := by
  rw [c_ge (by rw [rg_wd h hn]; exact Nat.le_of_lt (wd_fin h hn)) (Nat.le_of_lt (rg_pow_lt h2))]
  simp only [key_pow_le h hn h1 h2]
theorem lt_pow : (FloatKind.f64.format.order (wd n) (E * 2 ^ 52) == some .lt) = decide (n < 2 ^ (51 + E)) := by
  rw [c_lt (by rw [rg_wd h hn]; exact Nat.le_of_lt (wd_fin h hn)) (Nat.le_of_lt (rg_pow_lt h2))]
  have := key_pow_le h hn h1 h2
  have e : key (wd n) < key (E * 2 ^ 52) ↔ n < 2 ^ (51 + E) := by omega
  simp only [e]
end

theorem eq_zero {n : Nat} (h : Rep n) (hn : n < TOP) : (FloatKind.f64.format.order (wd n) 0 == some .eq) = decide (n = 0) := by
  rw [c_eq (by rw [rg_wd h hn]; exact Nat.le_of_lt (wd_fin h hn)) rg_zero_le, key_zero, key_wd h hn]
  have := wd_le_iff h rep_zero
  rw [wd_zero] at this
  have e : ((wd n : Int) = 0) ↔ n = 0 := by omega
  simp only [e]

/-! ### integers -/
theorem ofNat_wd {m : Nat} (h : Rep m) (hm : m * U < TOP) : floatOfInt .f64 (m : Int) = wd (m * U) := by
  show double.nearest _ _ _ = _
  have he := e0_eq
  rw [nearest_eq _ _ 0 e0 0 (by omega), Int.natAbs_natCast, ← U_eq]
  have : Rep (m * U) := by rw [U_eq]; exact h.mul_pow e0
  have h0 : decide ((m : Int) < 0) = false := by simp
  rw [h0, mk_false]
  show min (wd (m * U)) INF = _
  exact Nat.min_eq_left (Nat.le_of_lt (wd_fin this hm))

theorem cut_zero (s : Bool) (n d : Nat) : Toward.zero.cut s n d = n / 2 ^ d := by
  unfold Toward.cut
  simp only [Nat.shiftLeft_eq, Nat.one_mul, Bool.toNat_false, Nat.add_zero]
  rcases Nat.lt_or_ge (n.log2 + 2) d with h | h
  · rw [Nat.min_eq_right (by omega)]
    have hl : n < 2 ^ (n.log2 + 1) := Nat.lt_log2_self
    have h1 : n < 2 ^ (n.log2 + 2) := Nat.lt_trans hl (pow_lt (by omega))
    have h2 : n < 2 ^ d := Nat.lt_trans h1 (pow_lt h)
    rw [Nat.div_eq_of_lt h1, Nat.div_eq_of_lt h2]
  · rw [Nat.min_eq_left h]

/-- what is cut off behind the point -/
theorem cut_div {m e : Nat} {r : Nat} (h : m * 2 ^ e = r) (s : Bool) : Toward.zero.cut s (m <<< ((e : Int) - 1074).toNat) (-((e : Int) - 1074)).toNat = r / U := by
  rw [cut_zero, Nat.shiftLeft_eq, ← h, U_eq]
  have he := e0_eq
  rcases Nat.lt_or_ge e e0 with hlt | hge
  · rw [show ((e : Int) - 1074).toNat = 0 by omega, show (-((e : Int) - 1074)).toNat = e0 - e by omega, Nat.pow_zero, Nat.mul_one]
    have : 2 ^ e0 = 2 ^ e * 2 ^ (e0 - e) := by rw [← Nat.pow_add]; congr 1; omega
    rw [this, Nat.mul_comm m, Nat.mul_div_mul_left _ _ (pow_pos e)]
  · rw [show ((e : Int) - 1074).toNat = e - e0 by omega, show (-((e : Int) - 1074)).toNat = 0 by omega, Nat.pow_zero, Nat.div_one]
    have : 2 ^ e = 2 ^ (e - e0) * 2 ^ e0 := by rw [← Nat.pow_add]; congr 1; omega
    rw [this, ← Nat.mul_assoc, Nat.mul_div_cancel _ (pow_pos e0)]

theorem toInt_fin {b : Nat} (hb : rg b < INF) : (FloatKind.f64.decode b).toInt .zero = some (if sg b then -((rv (rg b) / U : Nat) : Int) else ((rv (rg b) / U : Nat) : Int)) := by
  obtain ⟨m, e, hr, hm, _, _⟩ := read_fin hb
  have e1 : FloatKind.f64.decode b = double.read b := rfl
  rw [e1, hr]
  simp only [Datum.toInt, Datum.integral, cut_div hm, signed_eq, Nat.pow_zero, Nat.mul_one]

theorem toU64_wd {n : Nat} (h : Rep n) (hn : n < TOP) (hs : n / U < 2 ^ 64) : floatToIntVal .f64 (wd n) .u64 = some ((n / U : Nat) : Int) := by
  unfold floatToIntVal
  rw [toInt_fin (by rw [rg_wd h hn]; exact wd_fin h hn), sg_wd h hn, rg_wd h hn, rv_wd h]
  simp only [Bool.false_eq_true, if_false]
  have h1 : IntKind.u64.min = 0 := rfl
  have h2 : IntKind.u64.max = 18446744073709551615 := rfl
  generalize n / U = q at *
  rw [h1, h2, if_pos (by omega)]

/-- the format has this number of least positive numbers, and it is below infinity; a structure: nothing looks into it by itself -/
structure Fits (n : Nat) : Prop where
  rep : Rep n
  lt : n < TOP

theorem fits_rv {r : Nat} (h : r < INF) : Fits (rv r) := ⟨rep_rv r, rv_lt_TOP h⟩
theorem fits_zero : Fits 0 := ⟨rep_zero, by rw [TOP_eq]; exact pow_pos _⟩
theorem Fits.of_mul {n k : Nat} (h : Fits (n * 2 ^ k)) : Fits n := ⟨h.rep.of_mul_pow, Nat.lt_of_le_of_lt (Nat.le_mul_of_pos_right _ (pow_pos k)) h.lt⟩

theorem mul64_wd {n : Nat} (h : Fits (n * 2 ^ 64)) : floatBits .mul .f64 (wd n) 4895412794951729152 = some (wd (n * 2 ^ 64)) := mul_wd (E := 1087) h.rep.of_mul_pow h.lt (by decide) (by rw [e0_eq])
theorem mul1_wd {n : Nat} (h : Fits (n * 2 ^ 1)) : floatBits .mul .f64 (wd n) 4611686018427387904 = some (wd (n * 2 ^ 1)) := mul_wd (E := 1024) (j := 1) h.rep.of_mul_pow h.lt (by decide) (by rw [e0_eq])
theorem quo64_wd {n : Nat} (h : Fits (n * 2 ^ 64)) : floatBits .quo .f64 (wd (n * 2 ^ 64)) 4895412794951729152 = some (wd n) := quo_wd (E := 1087) h.rep.of_mul_pow h.lt (by decide) (by decide) (by rw [e0_eq])
theorem quo1_wd {n : Nat} (h : Fits (n * 2 ^ 1)) : floatBits .quo .f64 (wd (n * 2 ^ 1)) 4611686018427387904 = some (wd n) := quo_wd (E := 1024) (j := 1) h.rep.of_mul_pow h.lt (by decide) (by decide) (by rw [e0_eq])

theorem neg_wd {n : Nat} (h : Fits n) : Op.negFloat .f64 (wd n) = mk true (wd n) := by
  rw [neg_bits _ (wd_word h.rep h.lt), sg_wd h.rep h.lt, rg_wd h.rep h.lt]; rfl

/-- 'n' times 2 to the power of 'k' is 'N'; a structure, so that no search opens the numbers -/
structure Sc (n k N : Nat) : Prop where
  eq : n * 2 ^ k = N

theorem Sc.add {n j i N : Nat} (h : Sc n (j + i) N) : Sc (n * 2 ^ i) j N := ⟨by rw [← h.eq, Nat.mul_assoc, ← Nat.pow_add, Nat.add_comm]⟩
theorem Sc.fits {n k N : Nat} (h : Sc n k N) (hF : Fits N) : Fits n := by rw [← h.eq] at hF; exact hF.of_mul
theorem Sc.zero {n N : Nat} (h : Sc n 0 N) : n = N := by have := h.eq; simpa using this

/-- times 2^64, with 2^(j + 64) to go -/
theorem Sc.up64 {n j N : Nat} (h : Sc n (j + 64) N) (hF : Fits N) : ∃ n', Sc n' j N ∧ floatBits .mul .f64 (wd n) 4895412794951729152 = some (wd n') :=
  ⟨n * 2 ^ 64, h.add, mul64_wd (h.add.fits hF)⟩
theorem Sc.up1 {n j N : Nat} (h : Sc n (j + 1) N) (hF : Fits N) : ∃ n', Sc n' j N ∧ floatBits .mul .f64 (wd n) 4611686018427387904 = some (wd n') :=
  ⟨n * 2 ^ 1, h.add, mul1_wd (h.add.fits hF)⟩
/-- divided by 2^64: 'M' times 2^(j + 64) is what there is -/
theorem Sc.down64 {n j M : Nat} (h : Sc M (j + 64) n) (hF : Fits n) : ∃ n', Sc M j n' ∧ Fits n' ∧ floatBits .quo .f64 (wd n) 4895412794951729152 = some (wd n') := by
  have e : M * 2 ^ j * 2 ^ 64 = n := by rw [← h.eq, Nat.mul_assoc, ← Nat.pow_add]
  have hF2 : Fits (M * 2 ^ j * 2 ^ 64) := by rw [e]; exact hF
  refine ⟨M * 2 ^ j, ⟨rfl⟩, hF2.of_mul, ?_⟩
  have := quo64_wd hF2
  rw [e] at this; exact this
theorem Sc.down1 {n j M : Nat} (h : Sc M (j + 1) n) (hF : Fits n) : ∃ n', Sc M j n' ∧ Fits n' ∧ floatBits .quo .f64 (wd n) 4611686018427387904 = some (wd n') := by
  have e : M * 2 ^ j * 2 ^ 1 = n := by rw [← h.eq, Nat.mul_assoc, ← Nat.pow_add]
  have hF2 : Fits (M * 2 ^ j * 2 ^ 1) := by rw [e]; exact hF
  refine ⟨M * 2 ^ j, ⟨rfl⟩, hF2.of_mul, ?_⟩
  have := quo1_wd hF2
  rw [e] at this; exact this

end Go.Proofs.Ytelhgahbhbinoaa.Flt
