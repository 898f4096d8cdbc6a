/-
  Plain facts behind math.Ldexp: a number times a power of 2, rounded once. No program in sight.
-/
import Derived.Test.YtelhgahbhbinoaaFln
import Derived.IntWalk
namespace Go.Proofs.Ytelhgahbhbinoaa.Flt
open Ieee
open Go.RowKit (wrap64)

/-- the rung nearest to 'n * 2^e', infinity left out of sight -/
def lds (n : Nat) (e : Int) : Nat := ru (n * 2 ^ e.toNat) (-e).toNat

theorem lds_of (n : Nat) {e : Int} {a k : Nat} (h : e = (a : Int) - k) : lds n e = ru (n * 2 ^ a) k := by
  unfold lds
  rcases Nat.lt_or_ge a k with hk | hk
  · rw [show e.toNat = 0 by omega, show (-e).toNat = k - a by omega, Nat.pow_zero, Nat.mul_one]
    have := ru_scale n (k - a) a
    rw [show k - a + a = k by omega] at this
    exact this.symm
  · rw [show e.toNat = a - k by omega, show (-e).toNat = 0 by omega]
    have := ru_scale (n * 2 ^ (a - k)) 0 k
    rw [Nat.mul_assoc, ← Nat.pow_add, show a - k + k = a by omega, Nat.zero_add] at this
    exact this.symm

theorem lds_shift (m i : Nat) (e : Int) : lds (m * 2 ^ i) e = lds m (e + i) := by
  obtain ⟨a, k, h⟩ : ∃ a k : Nat, e = (a : Int) - k := ⟨e.toNat, (-e).toNat, by omega⟩
  rw [lds_of _ h, lds_of m (a := i + a) (k := k) (by omega), Nat.mul_assoc, ← Nat.pow_add]

theorem lds_mono {m n : Nat} (h : m ≤ n) (e : Int) : lds m e ≤ lds n e := by
  unfold lds; exact ru_mono (Nat.mul_le_mul_right _ h)

/-- what math.Ldexp gives -/
def ld (x : Nat) (e : Int) : Nat := if rg x = 0 ∨ INF ≤ rg x then x else mk (sg x) (min (lds (rv (rg x)) e) INF)

theorem ld_keep {x : Nat} {e : Int} (h : rg x = 0 ∨ INF ≤ rg x) : ld x e = x := by unfold ld; rw [if_pos h]
theorem ld_fin {x : Nat} {e : Int} (h0 : 0 < rg x) (h1 : rg x < INF) : ld x e = mk (sg x) (min (lds (rv (rg x)) e) INF) := by
  unfold ld; rw [if_neg (by omega)]
theorem ld_lt {x : Nat} (e : Int) (hx : x < 2 ^ 64) : ld x e < 2 ^ 64 := by
  unfold ld; split
  · exact hx
  · exact mk_lt _ (min_INF_lt _)

section
variable {m : Nat} (h1 : 2 ^ 52 ≤ m) (h2 : m < 2 ^ 53)
include h1 h2
/-- too small -/
theorem lds_under {e : Int} (he : e < -53) : lds m e = 0 := by
  obtain ⟨k, rfl⟩ : ∃ k : Nat, e = -(k : Int) := ⟨(-e).toNat, by omega⟩
  rw [lds_of m (a := 0) (k := k) (by omega), Nat.pow_zero, Nat.mul_one]
  apply ru_eq
  refine ⟨⟨?_, fun h => by simp at h⟩, fun h => absurd h (by omega)⟩
  rw [rv_zero, rv_small (show 0 + 1 ≤ 2 ^ 53 by decide)]
  have : 2 ^ 54 ≤ 2 ^ k := pow_le (by omega)
  omega
/-- a normal number -/
theorem lds_normal (t : Nat) : lds m (t : Int) = t * 2 ^ 52 + m := by
  rw [lds_of m (a := t) (k := 0) (by omega), ← rv_mk h1 (Nat.le_of_lt h2), ru_exact0]
/-- too great -/
theorem lds_over {e : Int} (he : 2045 < e) : INF ≤ lds m e := by
  obtain ⟨t, rfl⟩ : ∃ t : Nat, e = (t : Int) := ⟨e.toNat, by omega⟩
  rw [lds_normal h1 h2 t]
  have := INF_val
  omega
end

/-! ### the bits -/
theorem expField {s : Bool} {r : Nat} (hr : r < 2 ^ 63) : mk s r / 2 ^ 52 % 2048 = r / 2 ^ 52 := by
  unfold mk; split <;> omega

theorem and_mask (q : Nat) (h : q < 2 ^ 12) : bits .and .i64 (wrap64 (q : Int)) 2047 = ((q % 2048 : Nat) : Int) := by
  have hw : wrap64 (q : Int) = (q : Int) := IntWalk.wrap64_in _ (by omega)
  rw [hw]
  show IntKind.i64.wrap (((BitVec.ofInt 64 (q : Int)) &&& (BitVec.ofInt 64 (2047 : Int))).toNat : Int) = _
  have a1 : (BitVec.ofInt 64 (q : Int)).toNat = q := ofInt_u64 q (by omega)
  have a2 : (BitVec.ofInt 64 (2047 : Int)).toNat = 2047 := rfl
  rw [BitVec.toNat_and, a1, a2]
  have := Nat.and_two_pow_sub_one_eq_mod q 11
  rw [show 2047 = 2 ^ 11 - 1 by rfl, this]
  exact IntWalk.i64_in _ (by omega)

theorem field_of {x : Nat} (hx : x < 2 ^ 64) : bits .and .i64 (wrap64 ((x : Int) / 4503599627370496)) 2047 = ((rg x / 2 ^ 52 : Nat) : Int) := by
  have e : ((x : Int) / 4503599627370496) = ((x / 2 ^ 52 : Nat) : Int) := by omega
  rw [e, and_mask _ (by omega)]
  have := expField (s := sg x) (rg_lt x)
  rw [mk_of hx] at this
  rw [this]

/-- the exponent put anew -/
theorem put_exp {x : Nat} (hx : x < 2 ^ 64) (q : Nat) (hq : q < 2048) :
    (bits .or .u64 (bits .andNot .u64 (x : Int) 9218868437227405312) ((q * 2 ^ 52 : Nat) : Int)).toNat = mk (sg x) (q * 2 ^ 52 + rg x % 2 ^ 52) := by
  have hc : ((9218868437227405312 : Nat) : Int) = 9218868437227405312 := rfl
  rw [← hc, u64_andNot_nat x _ (by omega) (by omega)]
  have e1 : x &&& (18446744073709551615 - 9218868437227405312) = mk (sg x) (rg x % 2 ^ 52) := by
    have hl : x &&& (18446744073709551615 - 9218868437227405312) = (x &&& 2 ^ 63) ||| (x &&& (2 ^ 52 - 1)) := by
      rw [← Nat.and_or_distrib_left]; rfl
    rw [hl, nat_bit, Nat.and_two_pow_sub_one_eq_mod, nat_join 63 _ _ (by omega) (by omega)]
    unfold mk sg rg
    by_cases h : x / 2 ^ 63 % 2 = 1
    · rw [h]; simp
    · have : x / 2 ^ 63 % 2 = 0 := by omega
      rw [this]; simp
  rw [e1]
  have l1 : rg x % 2 ^ 52 < 2 ^ 52 := Nat.mod_lt _ (by decide)
  have l2 : mk (sg x) (rg x % 2 ^ 52) < 2 ^ 64 := mk_lt _ (by omega)
  rw [u64_or_nat _ _ (by omega) (by omega), Int.toNat_natCast]
  -- disjoint bits
  cases sg x
  · rw [mk_false, mk_false, Nat.or_comm, nat_join 52 _ _ (by omega) l1]
  · have e2 : mk true (rg x % 2 ^ 52) = 2 ^ 63 ||| (rg x % 2 ^ 52) := by
      rw [nat_join 63 _ _ (by omega) (by omega)]; rfl
    rw [e2, Nat.or_assoc, Nat.or_comm (rg x % 2 ^ 52), nat_join 52 (q * 2 ^ 52) _ (by omega) l1]
    rw [nat_join 63 _ _ (by omega) (by omega)]; rfl

/-- 1 times a number -/
theorem one_mul_word {y : Nat} (hy : y < 2 ^ 64) (hf : rg y < INF) : floatBits .mul .f64 4607182418800017408 y = some y := by
  show double.mul _ _ = _
  have e : 4607182418800017408 = 1023 * 2 ^ 52 := rfl
  have he := e0_eq
  rw [e, mul_fin (rg_pow_lt (by decide)) hf, fv_pow (by decide) (by decide), sg_pow (by decide), Bool.false_xor, Int.mul_comm]
  have h := rs_exact hy hf (sg y) e0 (fun _ => rfl)
  have e2 : ((2 ^ (51 + 1023) : Nat) : Int) = 2 ^ e0 := by rw [show 51 + 1023 = e0 from rfl]; simp
  rw [e2, h]

/-- 2^-53 times a number -/
theorem tiny_mul {s : Bool} {r : Nat} (hr : r < INF) : floatBits .mul .f64 4368491638549381120 (mk s r) = some (mk s (min (ru (rv r) 53) INF)) := by
  show double.mul _ _ = _
  have e : 4368491638549381120 = 970 * 2 ^ 52 := rfl
  have he := e0_eq
  have hI := INF_lt
  rw [e, mul_fin (rg_pow_lt (by decide)) (by rw [rg_mk s (by omega)]; exact hr), fv_pow (by decide) (by decide), sg_pow (by decide), Bool.false_xor, sg_mk s (by omega)]
  congr 1
  have hv : fv (mk s r) = if s then -(rv r : Int) else (rv r : Int) := by unfold fv; rw [sg_mk s (by omega), rg_mk s (by omega)]
  obtain ⟨c, hc⟩ : ∃ c, c = 51 + 970 := ⟨_, rfl⟩
  rw [← hc, hv]
  have e3 : ((2 ^ c : Nat) : Int) * (if s then -(rv r : Int) else (rv r : Int)) = if s then -((rv r * 2 ^ c : Nat) : Int) else ((rv r * 2 ^ c : Nat) : Int) := by
    cases s
    · simp only [Bool.false_eq_true, if_false, Int.natCast_mul]; exact Int.mul_comm _ _
    · simp only [if_true, Int.natCast_mul, Int.mul_neg]; congr 1; exact Int.mul_comm _ _
  rw [e3, ← rs_signed]
  have := ru_scale (rv r) 53 c
  rw [show 53 + c = e0 by omega] at this
  rw [this]

end Go.Proofs.Ytelhgahbhbinoaa.Flt
