/-
  Integers (of least positive numbers) as words of binary64: sums, differences, order, all exact. No program in sight.
-/
import Derived.Test.YtelhgahbhbinoaaFrp
import Derived.Test.YtelhgahbhbinoaaFva
namespace Go.Proofs.Ytelhgahbhbinoaa.Flt
open Ieee

/-- the word of an integer; a nought has no sign -/
def sw (n : Int) : Nat := mk (decide (n < 0)) (wd n.natAbs)

theorem sw_nat (n : Nat) : sw (n : Int) = wd n := by
  unfold sw; rw [decide_eq_false (by omega), Int.natAbs_natCast, mk_false]
theorem sw_neg {n : Nat} (h : 0 < n) : sw (-(n : Int)) = mk true (wd n) := by
  unfold sw; rw [decide_eq_true (by omega), Int.natAbs_neg, Int.natAbs_natCast]
theorem sw_zero : sw 0 = 0 := by have := sw_nat 0; rw [wd_zero] at this; exact this

section
variable {a b : Int} (ha : Fits a.natAbs) (hb : Fits b.natAbs)
include ha
theorem sw_lt64 : sw a < 2 ^ 64 := mkwd_lt _ ha.rep ha.lt
theorem sw_fin : rg (sw a) < INF := fin_mkwd _ ha.rep ha.lt
theorem sg_sw : sg (sw a) = decide (a < 0) := sg_mkwd _ ha.rep ha.lt
theorem rg_sw : rg (sw a) = wd a.natAbs := rg_mkwd _ ha.rep ha.lt
theorem fv_sw : fv (sw a) = a := by
  unfold sw
  rw [fv_mkwd _ ha.rep ha.lt]
  by_cases h : a < 0
  · rw [decide_eq_true h, if_pos rfl]; omega
  · rw [decide_eq_false h, if_neg (by decide)]; omega
theorem vl_sw : vl (sw a) = .num a := by rw [vl_fin (sw_fin ha), fv_sw ha]
theorem rs_sw (s : Bool) (h : a = 0 → s = false) : rs s a 0 = sw a := by
  unfold sw
  refine rs_int _ ha a ?_ s ?_
  · by_cases h : a < 0
    · rw [decide_eq_true h, if_pos rfl]; omega
    · rw [decide_eq_false h, if_neg (by decide)]; omega
  · intro h0
    have e : a = 0 := by omega
    rw [h e, e]; rfl
include hb
theorem add_sw (hc : Fits (a + b).natAbs) : floatBits .add .f64 (sw a) (sw b) = some (sw (a + b)) := by
  show double.add _ _ = _
  rw [add_fin (sw_fin ha) (sw_fin hb), fv_sw ha, fv_sw hb, sg_sw ha, sg_sw hb, rs_sw hc]
  intro h
  by_cases h1 : a < 0
  · rw [decide_eq_false (show ¬ b < 0 by omega), Bool.and_false]
  · rw [decide_eq_false h1, Bool.false_and]
theorem sub_sw (hc : Fits (a - b).natAbs) : floatBits .sub .f64 (sw a) (sw b) = some (sw (a - b)) := by
  show double.sub _ _ = _
  rw [sub_fin (sw_fin ha) (sw_fin hb), fv_sw ha, fv_sw hb, sg_sw ha, sg_sw hb, rs_sw hc]
  intro h
  rw [show a = b by omega]; cases decide (b < 0) <;> rfl
theorem key_sw_lt : key (sw a) < key (sw b) ↔ a < b := by rw [← fv_lt_iff, fv_sw ha, fv_sw hb]
theorem key_sw_eq : key (sw a) = key (sw b) ↔ a = b := by rw [← fv_eq_iff, fv_sw ha, fv_sw hb]
theorem key_sw_le : key (sw a) ≤ key (sw b) ↔ a ≤ b := by rw [← fv_le_iff, fv_sw ha, fv_sw hb]
theorem eq_sw : (FloatKind.f64.format.order (sw a) (sw b) == some .eq) = decide (a = b) := by
  rw [c_eq (Nat.le_of_lt (sw_fin ha)) (Nat.le_of_lt (sw_fin hb)), decide_eq_decide]; exact key_sw_eq ha hb
theorem ne_sw : (FloatKind.f64.format.order (sw a) (sw b) != some .eq) = decide (a ≠ b) := by
  rw [c_ne (Nat.le_of_lt (sw_fin ha)) (Nat.le_of_lt (sw_fin hb)), decide_eq_decide, ne_eq, key_sw_eq ha hb]
theorem lt_sw : (FloatKind.f64.format.order (sw a) (sw b) == some .lt) = decide (a < b) := by
  rw [c_lt (Nat.le_of_lt (sw_fin ha)) (Nat.le_of_lt (sw_fin hb)), decide_eq_decide]; exact key_sw_lt ha hb
theorem gt_sw : (FloatKind.f64.format.order (sw a) (sw b) == some .gt) = decide (b < a) := by
  rw [c_gt (Nat.le_of_lt (sw_fin ha)) (Nat.le_of_lt (sw_fin hb)), decide_eq_decide]; exact key_sw_lt hb ha
theorem le_sw : (FloatKind.f64.format.order (sw a) (sw b) == some .lt || FloatKind.f64.format.order (sw a) (sw b) == some .eq) = decide (a ≤ b) := by
  rw [c_le (Nat.le_of_lt (sw_fin ha)) (Nat.le_of_lt (sw_fin hb)), decide_eq_decide]; exact key_sw_le ha hb
theorem ge_sw : (FloatKind.f64.format.order (sw a) (sw b) == some .gt || FloatKind.f64.format.order (sw a) (sw b) == some .eq) = decide (b ≤ a) := by
  rw [c_ge (Nat.le_of_lt (sw_fin ha)) (Nat.le_of_lt (sw_fin hb)), decide_eq_decide]; exact key_sw_le hb ha
end

theorem neg_mkwd (s : Bool) {n : Nat} (h : Fits n) : Op.negFloat .f64 (mk s (wd n)) = mk (!s) (wd n) := by
  rw [neg_bits _ (mkwd_lt s h.rep h.lt), sg_mkwd s h.rep h.lt, rg_mkwd s h.rep h.lt]

/-- a word that is not -0 is the word of its value -/
theorem sw_fv {x : Nat} (hx : x < 2 ^ 64) (h0 : rg x = 0 → sg x = false) : x = sw (fv x) := by
  unfold sw
  rw [fv_natAbs, wd_rv]
  have e : decide (fv x < 0) = sg x := by
    by_cases h : fv x = 0
    · rw [h, h0 ((fv_zero_iff x).1 h)]; rfl
    · exact (fv_sign h).symm
  rw [e, mk_of hx]

/-- half of an even number -/
theorem half_wd {n : Nat} (h : Fits (n * 2)) : floatBits .mul .f64 4602678819172646912 (wd (n * 2)) = some (wd n) := by
  have hn : Fits n := by have := h; rw [show n * 2 = n * 2 ^ 1 by omega] at this; exact this.of_mul
  have e : 4602678819172646912 = 1022 * 2 ^ 52 := rfl
  show double.mul _ _ = _
  have h1 : rg (1022 * 2 ^ 52) < INF := rg_pow_lt (by decide)
  rw [e, mul_fin h1 h.fin, sg_pow (by decide), h.sg, h.fv]
  obtain ⟨E, hE⟩ : ∃ E, E = 1022 := ⟨_, rfl⟩
  have he := e0_eq
  rw [← hE, fv_pow (by omega) (by omega)]
  have := rs_rep hn.rep hn.lt false e0
  simp only [Bool.false_eq_true, if_false] at this
  rw [← Int.natCast_mul]
  have e2 : 2 ^ (51 + E) * (n * 2) = n * 2 ^ e0 := by
    rw [show e0 = (51 + E) + 1 by omega, Nat.pow_succ]
    rw [Nat.mul_comm, Nat.mul_assoc, Nat.mul_comm 2]
  rw [e2]
  show some (rs (false ^^ false) _ e0) = _
  rw [Bool.xor_false, this, mk_false]

end Go.Proofs.Ytelhgahbhbinoaa.Flt
