/-
  Plain facts behind FnDotScaled: rounding goes with powers of 2 as long as nothing is small. No program in sight.
-/
import Derived.Test.YtelhgahbhbinoaaFlm
namespace Go.Proofs.Ytelhgahbhbinoaa.Flt
open Ieee

/-- rounding goes with powers of 2 where the result is no small one -/
theorem ru_up {N k : Nat} (d : Nat) (h : 2 ^ (52 + k) ≤ N) : ru (N * 2 ^ d) k = ru N k + d * 2 ^ 52 := by
  have h0 : N ≠ 0 := by have := pow_pos (52 + k); omega
  have h1 : N * 2 ^ d ≠ 0 := Nat.mul_ne_zero h0 (Nat.ne_of_gt (pow_pos d))
  have hl : 52 + k ≤ N.log2 := (Nat.le_log2 h0).2 h
  unfold ru
  rw [if_neg h0, if_neg h1, log2_mul_pow N d h0, show N.log2 + d - (52 + k) = N.log2 - (52 + k) + d by omega, show N.log2 - (52 + k) + d + k = N.log2 - (52 + k) + k + d by omega, rhe_mul, Nat.add_mul]
  omega

theorem ru_big {N k : Nat} (h : 2 ^ (52 + k) ≤ N) : 2 ^ 52 ≤ ru N k := by
  have h1 := ru_mono (k := k) h
  have e : ru (2 ^ (52 + k)) k = 2 ^ 52 := by
    have := ru_exact (2 ^ 52) k
    rw [rv_small (by decide), ← Nat.pow_add] at this; exact this
  omega

/-- a little more than a power of 2 is rounded to it at most -/
theorem ru_le_top {N k t : Nat} (h : 2 * N ≤ 2 * 2 ^ (52 + t + k) + 2 ^ (t + k)) : ru N k ≤ (t + 1) * 2 ^ 52 := by
  have hr : rv ((t + 1) * 2 ^ 52) = 2 ^ (52 + t) := by
    rw [show (t + 1) * 2 ^ 52 = t * 2 ^ 52 + 2 ^ 52 by omega, rv_mk (Nat.le_refl _) (by decide), ← Nat.pow_add]
  have hg := rv_gap ((t + 1) * 2 ^ 52)
  rw [Nat.mul_div_cancel _ (by decide), Nat.add_sub_cancel] at hg
  rcases Nat.lt_or_ge N (2 ^ (52 + t + k)) with hlt | hge
  · have h1 := ru_mono (k := k) (Nat.le_of_lt hlt)
    have e : ru (2 ^ (52 + t + k)) k = (t + 1) * 2 ^ 52 := by
      have := ru_exact ((t + 1) * 2 ^ 52) k
      rw [hr, ← Nat.pow_add] at this; exact this
    rw [e] at h1; exact h1
  · have hn : Near N k ((t + 1) * 2 ^ 52) := by
      refine ⟨⟨?_, fun h => by omega⟩, fun _ => ⟨?_, fun h => by omega⟩⟩
      · rw [hg, hr, Nat.add_mul, Nat.add_mul, ← Nat.pow_add, ← Nat.pow_add]; omega
      · have h1 : rv ((t + 1) * 2 ^ 52 - 1) ≤ rv ((t + 1) * 2 ^ 52) := rv_le (by omega)
        have h2 : (rv ((t + 1) * 2 ^ 52 - 1) + rv ((t + 1) * 2 ^ 52)) * 2 ^ k ≤ (2 * 2 ^ (52 + t)) * 2 ^ k := Nat.mul_le_mul_right _ (by omega)
        rw [Nat.mul_assoc, ← Nat.pow_add] at h2
        omega
    rw [ru_eq hn]; exact Nat.le_refl _

/-- rounding keeps multiples of a power of 2 -/
theorem ru_mult (n j : Nat) : 2 ^ j ∣ rv (ru (n * 2 ^ j) 0) := by
  obtain ⟨N, hN⟩ : ∃ N, N = n * 2 ^ j := ⟨_, rfl⟩
  rw [← hN]
  have hd : 2 ^ j ∣ N := ⟨n, by rw [hN, Nat.mul_comm]⟩
  by_cases h0 : N = 0
  · rw [h0, ru_zero, rv_zero]; exact Nat.dvd_zero _
  have e : ru N 0 = (N.log2 - 52) * 2 ^ 52 + rhe N (N.log2 - 52) := by unfold ru; rw [if_neg h0]; rfl
  have hlo := Nat.log2_self_le h0
  have hhi : N < 2 ^ (N.log2 + 1) := Nat.lt_log2_self
  rw [e]
  generalize N.log2 = L at *
  rcases Nat.lt_or_ge L 53 with hL | hL
  · rw [show L - 52 = 0 by omega, rhe_zero, Nat.zero_mul, Nat.zero_add, rv_small]
    · exact hd
    · have := pow_le (show L + 1 ≤ 53 by omega); omega
  · obtain ⟨t, rfl⟩ : ∃ t, L = 52 + t := ⟨L - 52, by omega⟩
    rw [show 52 + t - 52 = t by omega]
    have q1 : 2 ^ 52 ≤ N / 2 ^ t := by rw [Nat.le_div_iff_mul_le (pow_pos t), ← Nat.pow_add]; exact hlo
    have q2 : N / 2 ^ t < 2 ^ 53 := by rw [Nat.div_lt_iff_lt_mul (pow_pos t), ← Nat.pow_add, show 53 + t = 52 + t + 1 by omega]; exact hhi
    have q3 : 2 ^ 52 ≤ rhe N t ∧ rhe N t ≤ 2 ^ 53 := by unfold rhe; split <;> omega
    rw [rv_mk q3.1 q3.2]
    rcases Nat.lt_or_ge t j with hj | hj
    · have en : N = n * 2 ^ (j - t) * 2 ^ t := by rw [hN, Nat.mul_assoc, ← Nat.pow_add]; congr 2; omega
      have : rhe N t * 2 ^ t = N := by rw [en, rhe_exact]
      rw [this]; exact hd
    · exact Nat.dvd_trans (Nat.pow_dvd_pow 2 hj) (Nat.dvd_mul_left _ _)

/-- z' is z times 2^a -/
structure Tm (a z z' : Nat) : Prop where
  sg : sg z' = sg z
  rv : rv (rg z') = rv (rg z) * 2 ^ a

theorem Tm.fv {a z z' : Nat} (h : Tm a z z') : fv z' = fv z * ((2 ^ a : Nat) : Int) := by
  unfold Flt.fv
  rw [h.sg, h.rv]
  split <;> simp [Int.neg_mul]

theorem rv_rung (t : Nat) : rv ((t + 1) * 2 ^ 52) = 2 ^ (52 + t) := by
  rw [show (t + 1) * 2 ^ 52 = t * 2 ^ 52 + 2 ^ 52 by omega, rv_mk (Nat.le_refl _) (by decide), ← Nat.pow_add]
theorem Tm.le {a z z' t : Nat} (h : Tm a z z') (hz : rg z ≤ (t + 1) * 2 ^ 52) : rg z' ≤ (t + a + 1) * 2 ^ 52 := by
  rw [← rv_le_iff, h.rv, rv_rung]
  have h1 := rv_le hz
  rw [rv_rung] at h1
  have h2 := Nat.mul_le_mul_right (2 ^ a) h1
  rw [← Nat.pow_add, show 52 + t + a = 52 + (t + a) by omega] at h2
  exact h2

/-- the greatest exponents of the numbers and of the sums, and the powers that they are multiples of -/
def tX : Nat := 1123
def tZ : Nat := 1322
def eM : Nat := 821
def eZ : Nat := 568
theorem tX_eq : tX = 1123 := rfl
theorem tZ_eq : tZ = 1322 := rfl
theorem eM_eq : eM = 821 := rfl
theorem eZ_eq : eZ = 568 := rfl

/-- a number of the lists -/
structure Bw (x : Nat) : Prop where
  le : rg x ≤ (tX + 1) * 2 ^ 52
  mult : 2 ^ eM ∣ rv (rg x)
/-- a sum on the way -/
structure Dz (z : Nat) : Prop where
  le : rg z ≤ (tZ + 1) * 2 ^ 52
  mult : 2 ^ eZ ∣ rv (rg z)

theorem top_fin {r t : Nat} (h : r ≤ (t + 1) * 2 ^ 52) (ht : t < 2046) : r < INF := by
  have := INF_val
  omega
theorem fv_dvd {z p : Nat} (h : p ∣ rv (rg z)) : (p : Int) ∣ fv z := by
  have := Int.ofNat_dvd.2 h
  unfold fv
  split
  · exact Int.dvd_neg.2 this
  · exact this

theorem lin (p q c u A : Int) : p * A * (q * A) + c * (A * A) * u = (p * q + c * u) * (A * A) := by
  rw [Int.add_mul, Int.mul_right_comm c, Int.mul_assoc p A, Int.mul_left_comm A q A, ← Int.mul_assoc p q]

theorem dot_step {a x y z x' y' z' : Nat} (hx : Bw x) (hy : Bw y) (hz : Dz z) (hx' : Tm a x x') (hy' : Tm a y y') (hz' : Tm (2 * a) z z') (ha : a ≤ 100) :
    ∃ r r', double.fma x y z = some r ∧ double.fma x' y' z' = some r' ∧ r < 2 ^ 64 ∧ r' < 2 ^ 64 ∧ Dz r ∧ Tm (2 * a) r r' := by
  have e1 := tX_eq
  have e2 := tZ_eq
  have e3 := eM_eq
  have e4 := eZ_eq
  have e5 := e0_eq
  have f1 := fma_fin (top_fin hx.le (by omega)) (top_fin hy.le (by omega)) (top_fin hz.le (by omega))
  have f2 := fma_fin (top_fin (hx'.le hx.le) (by omega)) (top_fin (hy'.le hy.le) (by omega)) (top_fin (hz'.le hz.le) (by omega))
  rw [hx'.sg, hy'.sg, hz'.sg] at f2
  obtain ⟨s, hs⟩ : ∃ s, s = ((sg x ^^ sg y) && sg z) := ⟨_, rfl⟩
  rw [← hs] at f1 f2
  obtain ⟨T, hT⟩ : ∃ T, T = fv x * fv y + fv z * (U : Int) := ⟨_, rfl⟩
  have hT' : fv x' * fv y' + fv z' * (U : Int) = T * ((2 ^ (2 * a) : Nat) : Int) := by
    rw [hx'.fv, hy'.fv, hz'.fv, hT, Nat.two_mul, Nat.pow_add, Int.natCast_mul]
    exact lin _ _ _ _ _
  rw [hT'] at f2
  rw [← hT] at f1
  have hb1 : ∃ n, T.natAbs = n * 2 ^ (eZ + e0) := by
    have d1 : ((2 ^ eM : Nat) : Int) * ((2 ^ eM : Nat) : Int) ∣ fv x * fv y := Int.mul_dvd_mul (fv_dvd hx.mult) (fv_dvd hy.mult)
    have d2 : ((2 ^ eZ : Nat) : Int) * (U : Int) ∣ fv z * (U : Int) := Int.mul_dvd_mul (fv_dvd hz.mult) (Int.dvd_refl _)
    rw [← Int.natCast_mul, ← Nat.pow_add, show eM + eM = eZ + e0 by omega] at d1
    rw [← Int.natCast_mul, U_eq, ← Nat.pow_add, ← U_eq] at d2
    have d3 := Int.dvd_add d1 d2
    rw [← hT] at d3
    have d4 := Int.ofNat_dvd_left.1 d3
    obtain ⟨n, hn⟩ := d4
    exact ⟨n, by rw [hn, Nat.mul_comm]⟩
  have hb2 : T.natAbs ≤ 2 ^ (52 + tX) * 2 ^ (52 + tX) + 2 ^ (52 + tZ) * 2 ^ e0 := by
    have m1 := rv_le hx.le
    have m2 := rv_le hy.le
    have m3 := rv_le hz.le
    rw [rv_rung] at m1 m2 m3
    have a1 : T.natAbs ≤ (fv x * fv y).natAbs + (fv z * (U : Int)).natAbs := by rw [hT]; exact Int.natAbs_add_le _ _
    rw [Int.natAbs_mul, Int.natAbs_mul, fv_natAbs, fv_natAbs, fv_natAbs, Int.natAbs_natCast] at a1
    have p1 := Nat.mul_le_mul m1 m2
    have p2 := Nat.mul_le_mul_right U m3
    rw [U_eq] at p2 a1
    exact Nat.le_trans a1 (Nat.add_le_add p1 p2)
  have hru : ru T.natAbs e0 ≤ (tZ + 1) * 2 ^ 52 := by
    refine ru_le_top ?_
    rw [← Nat.pow_add, ← Nat.pow_add] at hb2
    have h1 : 2 * 2 ^ (52 + tX + (52 + tX)) = 2 ^ (52 + tX + (52 + tX) + 1) := by rw [Nat.pow_succ]; omega
    have h2 : 2 ^ (52 + tX + (52 + tX) + 1) ≤ 2 ^ (tZ + e0) := pow_le (by omega)
    omega
  have hfin := top_fin hru (by omega)
  have hmu : 2 ^ eZ ∣ rv (ru T.natAbs e0) := by
    obtain ⟨n, hn⟩ := hb1
    have e : ru T.natAbs e0 = ru (n * 2 ^ eZ) 0 := by
      have := ru_scale (n * 2 ^ eZ) 0 e0
      rw [Nat.zero_add, Nat.mul_assoc, ← Nat.pow_add, ← hn] at this
      exact this
    rw [e]; exact ru_mult n eZ
  have hR : rg (rs s T e0) = ru T.natAbs e0 := by rw [rg_rs, Nat.min_eq_left (Nat.le_of_lt hfin)]
  refine ⟨_, _, f1, f2, rs_lt _ _ _, rs_lt _ _ _, ⟨by rw [hR]; exact hru, by rw [hR]; exact hmu⟩, ?_, ?_⟩
  · rw [sg_rs, sg_rs]
    have hp : (0 : Int) < ((2 ^ (2 * a) : Nat) : Int) := Int.ofNat_lt.2 (pow_pos _)
    generalize ((2 ^ (2 * a) : Nat) : Int) = P at *
    by_cases hz0 : T = 0
    · rw [hz0, Int.zero_mul]
    · rw [if_neg hz0, if_neg (Int.mul_ne_zero hz0 (by omega))]
      congr 1
      rw [eq_iff_iff]
      constructor
      · intro h; by_cases h' : T < 0
        · exact h'
        · exfalso; have := Int.mul_nonneg (show 0 ≤ T by omega) (show 0 ≤ P by omega); omega
      · intro h; exact Int.mul_neg_of_neg_of_pos h hp
  · rw [hR, rg_rs, Int.natAbs_mul, Int.natAbs_natCast]
    by_cases hz0 : T.natAbs = 0
    · rw [hz0, Nat.zero_mul, ru_zero, Nat.min_eq_left (Nat.zero_le _), rv_zero, Nat.zero_mul]
    · have hbig : 2 ^ (52 + e0) ≤ T.natAbs := by
        obtain ⟨n, hn⟩ := hb1
        rw [hn]
        have hn0 : 1 ≤ n := by
          rcases Nat.eq_zero_or_pos n with h | h
          · rw [h, Nat.zero_mul] at hn; exact absurd hn hz0
          · exact h
        have h1 := Nat.mul_le_mul_right (2 ^ (eZ + e0)) hn0
        rw [Nat.one_mul] at h1
        exact Nat.le_trans (pow_le (by omega)) h1
      rw [ru_up _ hbig, Nat.min_eq_left, rv_shift (ru_big hbig)]
      have := INF_val
      omega

end Go.Proofs.Ytelhgahbhbinoaa.Flt
