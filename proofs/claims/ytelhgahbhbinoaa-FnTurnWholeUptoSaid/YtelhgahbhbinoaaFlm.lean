/-
  Plain facts about numbers of the middle range: scaling is exact there. No program in sight.
-/
import Derived.Test.YtelhgahbhbinoaaFlo
namespace Go.Proofs.Ytelhgahbhbinoaa.Flt
open Ieee

/-- 0, or from 2^-400 to 2^400 in absolute value, by the rung -/
def Mid (r : Nat) : Prop := r = 0 ∨ (623 * 2 ^ 52 ≤ r ∧ r ≤ 1423 * 2 ^ 52)
instance (r : Nat) : Decidable (Mid r) := by unfold Mid; exact inferInstance

/-- a normal number times a power of 2 that leaves it normal -/
theorem lds_rung {r s : Nat} {j : Int} (hr : 2 ^ 52 ≤ r) (hs : 2 ^ 52 ≤ s) (h : (s : Int) = r + j * 2 ^ 52) : lds (rv r) j = s := by
  rcases Int.lt_or_le j 0 with hj | hj
  · obtain ⟨k, rfl⟩ : ∃ k : Nat, j = -(k : Int) := ⟨(-j).toNat, by omega⟩
    have e : r = s + k * 2 ^ 52 := by omega
    rw [lds_of (rv r) (a := 0) (k := k) (by omega), Nat.pow_zero, Nat.mul_one, e, rv_shift hs k, ru_exact]
  · obtain ⟨k, rfl⟩ : ∃ k : Nat, j = (k : Int) := ⟨j.toNat, by omega⟩
    have e : s = r + k * 2 ^ 52 := by omega
    rw [lds_of (rv r) (a := k) (k := 0) (by omega), ← rv_shift hr k, e, ru_exact0]

/-- a scaled rung, in the middle range -/
theorem sl_mid {r : Nat} {j : Int} (h1 : 2 ^ 52 ≤ r) (h2 : r < INF) (s : Nat) (hs1 : 2 ^ 52 ≤ s) (hs2 : s < INF) (h : (s : Int) = r + j * 2 ^ 52) : sl r j = s := by
  unfold sl
  rw [if_neg (by omega), lds_rung h1 hs1 h]; omega

theorem sl_zero (j : Int) : sl 0 j = 0 := by unfold sl; rw [if_pos (Or.inl rfl)]

/-- scaled twice is scaled once by both together -/
theorem sl_twice {r : Nat} (h : Mid r) {j k : Int} (hj1 : -300 ≤ j) (hj2 : j ≤ 300) (hk1 : -300 ≤ k) (hk2 : k ≤ 300) : sl (sl r j) k = sl r (j + k) := by
  have hI := INF_val
  rcases h with h | h
  · subst h; rw [sl_zero, sl_zero, sl_zero]
  · obtain ⟨s, hs⟩ : ∃ s : Nat, (s : Int) = r + j * 2 ^ 52 := ⟨((r : Int) + j * 2 ^ 52).toNat, by omega⟩
    obtain ⟨t, ht⟩ : ∃ t : Nat, (t : Int) = s + k * 2 ^ 52 := ⟨((s : Int) + k * 2 ^ 52).toNat, by omega⟩
    rw [sl_mid (by omega) (by omega) s (by omega) (by omega) hs, sl_mid (by omega) (by omega) t (by omega) (by omega) ht, sl_mid (by omega) (by omega) t (by omega) (by omega) (by omega)]

theorem sl_nothing {r : Nat} : sl r 0 = r := by
  unfold sl; split
  · rfl
  · rw [lds_zero]; omega

theorem ld_twice {x : Nat} (hx : x < 2 ^ 64) (h : Mid (rg x)) {j k : Int} (hj1 : -300 ≤ j) (hj2 : j ≤ 300) (hk1 : -300 ≤ k) (hk2 : k ≤ 300) : ld (ld x j) k = ld x (j + k) := by
  rw [ld_eq k (ld_lt j hx), rg_ld j hx, sg_ld j hx, sl_twice h hj1 hj2 hk1 hk2, ← ld_eq (j + k) hx]
theorem ld_back {x : Nat} (hx : x < 2 ^ 64) (h : Mid (rg x)) {j : Int} (hj1 : -300 ≤ j) (hj2 : j ≤ 300) : ld (ld x j) (-j) = x := by
  rw [ld_twice hx h hj1 hj2 (by omega) (by omega), show j + -j = 0 by omega, ld_zero hx]

end Go.Proofs.Ytelhgahbhbinoaa.Flt
