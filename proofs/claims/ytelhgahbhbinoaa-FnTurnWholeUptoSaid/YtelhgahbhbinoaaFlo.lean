/-
  Plain facts about scaled words: order, sign; scaling by nothing. No program in sight.
-/
import Derived.Test.YtelhgahbhbinoaaFll
namespace Go.Proofs.Ytelhgahbhbinoaa.Flt
open Ieee

/-- the rung of a scaled word -/
def sl (r : Nat) (e : Int) : Nat := if r = 0 ∨ INF ≤ r then r else min (lds (rv r) e) INF

theorem sl_lt {r : Nat} (e : Int) (h : r < 2 ^ 63) : sl r e < 2 ^ 63 := by
  unfold sl; split
  · exact h
  · exact min_INF_lt _
theorem ld_eq {x : Nat} (e : Int) (hx : x < 2 ^ 64) : ld x e = mk (sg x) (sl (rg x) e) := by
  unfold ld sl
  by_cases h : rg x = 0 ∨ INF ≤ rg x
  · rw [if_pos h, if_pos h, mk_of hx]
  · rw [if_neg h, if_neg h]
theorem rg_ld {x : Nat} (e : Int) (hx : x < 2 ^ 64) : rg (ld x e) = sl (rg x) e := by
  rw [ld_eq e hx, rg_mk _ (sl_lt e (rg_lt x))]
theorem sg_ld {x : Nat} (e : Int) (hx : x < 2 ^ 64) : sg (ld x e) = sg x := by
  rw [ld_eq e hx, sg_mk _ (sl_lt e (rg_lt x))]
theorem sl_mono {r s : Nat} (e : Int) (h : r ≤ s) (hs : s ≤ INF) : sl r e ≤ sl s e := by
  unfold sl
  by_cases h1 : r = 0 ∨ INF ≤ r
  · rw [if_pos h1]
    by_cases h2 : s = 0 ∨ INF ≤ s
    · rw [if_pos h2]; exact h
    · rw [if_neg h2]; omega
  · rw [if_neg h1]
    by_cases h2 : s = 0 ∨ INF ≤ s
    · rw [if_pos h2]
      have := Nat.min_le_right (lds (rv r) e) INF
      omega
    · rw [if_neg h2]
      have := lds_mono (rv_le h) e
      omega
theorem sl_le {r : Nat} (e : Int) (h : r ≤ INF) : sl r e ≤ INF := by
  unfold sl; split
  · exact h
  · exact Nat.min_le_right _ _
theorem nan_ld {x : Nat} (e : Int) (hx : x < 2 ^ 64) : nan (ld x e) = nan x := by
  cases h : nan x
  · rw [nan_false, rg_ld e hx]; exact sl_le e (nan_false.1 h)
  · have := nan_true.1 h
    rw [nan_true, rg_ld e hx]
    unfold sl; rw [if_pos (by omega)]; exact this
theorem key_ld {x : Nat} (e : Int) (hx : x < 2 ^ 64) : key (ld x e) = if sg x then -(sl (rg x) e : Int) else (sl (rg x) e : Int) := by
  unfold key; rw [sg_ld e hx, rg_ld e hx]
theorem key_ld_mono {x y : Nat} (e : Int) (hx : x < 2 ^ 64) (hy : y < 2 ^ 64) (h1 : nan x = false) (h2 : nan y = false) (h : key x ≤ key y) : key (ld x e) ≤ key (ld y e) := by
  rw [key_ld e hx, key_ld e hy]
  have a1 := nan_false.1 h1
  have a2 := nan_false.1 h2
  unfold key at h
  have m1 := @sl_mono (rg x) (rg y) e
  have m2 := @sl_mono (rg y) (rg x) e
  have z : sl 0 e = 0 := by unfold sl; rw [if_pos (Or.inl rfl)]
  revert h
  cases sg x <;> cases sg y <;> simp only [Bool.false_eq_true, if_false, if_true] <;> intro h
  · have := m1 (by omega) a2; omega
  · have e1 : rg x = 0 := by omega
    have e2 : rg y = 0 := by omega
    rw [e1, e2, z]; omega
  · omega
  · have := m2 (by omega) a1; omega

theorem lds_zero (r : Nat) : lds (rv r) 0 = r := by
  rw [lds_of (rv r) (a := 0) (k := 0) (by omega), Nat.pow_zero, Nat.mul_one, ru_exact0]
theorem ld_zero {x : Nat} (hx : x < 2 ^ 64) : ld x 0 = x := by
  rw [ld_eq 0 hx]
  have : sl (rg x) 0 = rg x := by
    unfold sl; split
    · rfl
    · rw [lds_zero]; omega
  rw [this, mk_of hx]

end Go.Proofs.Ytelhgahbhbinoaa.Flt
