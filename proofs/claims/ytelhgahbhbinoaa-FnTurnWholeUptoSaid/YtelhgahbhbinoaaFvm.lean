/-
  Remainders of binary64 on values: the one with the sign of the first number, and the nearest one. No program in sight.
-/
import Derived.Test.YtelhgahbhbinoaaFrp
import Derived.Test.YtelhgahbhbinoaaFva
namespace Go.Proofs.Ytelhgahbhbinoaa.Flt
open Ieee

theorem vl_qNaN : vl qNaN = .nan := vl_nan (by decide)
theorem vl_mkwd (s : Bool) {n : Nat} (h : Fits n) : vl (mk s (wd n)) = .num (if s then -(n : Int) else (n : Int)) := by
  rw [vl_fin (fin_mkwd s h.rep h.lt), fv_mkwd s h.rep h.lt]

def modv : Val → Val → Val
  | .num u, .num v => if v = 0 then .nan else .num (u.tmod v)
  | .num u, .inf _ => .num u
  | _, _ => .nan

theorem tmod_signs (s t : Bool) (X Y : Nat) : (if s then -(X : Int) else (X : Int)).tmod (if t then -(Y : Int) else (Y : Int)) = if s then -((X % Y : Nat) : Int) else ((X % Y : Nat) : Int) := by
  have h : (X : Int).tmod (Y : Int) = ((X % Y : Nat) : Int) := rfl
  cases s <;> cases t <;> simp [Int.neg_tmod, Int.tmod_neg, h]

theorem vl_modW (x y : Nat) (hx : x < 2 ^ 64) : vl (modW x y) = modv (vl x) (vl y) := by
  rcases vl_cases x with ⟨h1, e1⟩ | ⟨h1, e1⟩ | ⟨h1, e1⟩ <;> rcases vl_cases y with ⟨h2, e2⟩ | ⟨h2, e2⟩ | ⟨h2, e2⟩ <;> rw [e1, e2]
  · rw [modW_nan (by omega)]; exact vl_qNaN
  · rw [modW_nan (by omega)]; exact vl_qNaN
  · rw [modW_nan (by omega)]; exact vl_qNaN
  · rw [modW_nan (by omega)]; exact vl_qNaN
  · rw [modW_nan (by omega)]; exact vl_qNaN
  · rw [modW_nan (by omega)]; exact vl_qNaN
  · rw [modW_nan (by omega)]; exact vl_qNaN
  · rw [modW_small hx (by omega) (by omega), e1]; rfl
  · show _ = if fv y = 0 then Val.nan else .num ((fv x).tmod (fv y))
    by_cases h0 : rg y = 0
    · rw [modW_nan (by omega), if_pos ((fv_zero_iff y).2 h0)]; exact vl_qNaN
    · rw [if_neg (fun h => h0 ((fv_zero_iff y).1 h)), modW_num h1 h0 (by omega), vl_mkwd _ (modW_fits h1 h0)]
      congr 1
      unfold fv
      rw [tmod_signs]

/-! ### the nearest remainder -/
/-- of the absolute values: the remainder by twice the second one, brought near to 0 -/
def remN (X Y : Nat) : Int :=
  if 2 * (X % (2 * Y)) ≤ Y then ((X % (2 * Y) : Nat) : Int) else if 2 * (X % (2 * Y)) < 3 * Y then ((X % (2 * Y) : Nat) : Int) - Y else ((X % (2 * Y) : Nat) : Int) - 2 * Y
/-- its absolute value -/
def nr (X Y : Nat) : Nat := (remN X Y).natAbs

theorem remN_le (X Y : Nat) (h : 0 < Y) : 2 * nr X Y ≤ Y := by
  have := Nat.mod_lt X (show 0 < 2 * Y by omega)
  unfold nr remN
  generalize X % (2 * Y) = r at *
  split
  · rw [Int.natAbs_natCast]; assumption
  · split <;> omega
theorem remN_dvd {X Y d : Nat} (h1 : d ∣ X) (h2 : d ∣ Y) : d ∣ nr X Y := by
  have h3 : d ∣ X % (2 * Y) := (Nat.dvd_mod_iff (Nat.dvd_trans h2 (Nat.dvd_mul_left _ _))).2 h1
  have i2 : (d : Int) ∣ (Y : Int) := Int.ofNat_dvd.2 h2
  have i3 : (d : Int) ∣ ((X % (2 * Y) : Nat) : Int) := Int.ofNat_dvd.2 h3
  have : (d : Int) ∣ remN X Y := by
    unfold remN
    split
    · exact i3
    · split
      · exact Int.dvd_sub i3 i2
      · exact Int.dvd_sub i3 (Int.dvd_mul_of_dvd_right i2)
  exact Int.ofNat_dvd_left.1 this
theorem remN_le_left (X Y : Nat) (h : 0 < Y) : nr X Y ≤ X := by
  rcases Nat.lt_or_ge Y (2 * X) with hl | hl
  · have := remN_le X Y h; omega
  · have e : X % (2 * Y) = X := Nat.mod_eq_of_lt (by omega)
    unfold nr remN
    rw [e, if_pos hl]; simp
theorem rep_nr {X Y : Nat} (hX : Rep X) (hY : Rep Y) (h0 : 0 < Y) : Rep (nr X Y) :=
  rep_common hX hY (remN_le_left X Y h0) (by have := remN_le X Y h0; omega) fun _ => remN_dvd
theorem fits_nr {X Y : Nat} (hX : Fits X) (hY : Rep Y) (h0 : 0 < Y) : Fits (nr X Y) :=
  ⟨rep_nr hX.rep hY h0, Nat.lt_of_le_of_lt (remN_le_left X Y h0) hX.lt⟩

def remW (x y : Nat) : Nat :=
  if INF ≤ rg x ∨ rg y = 0 ∨ INF < rg y then qNaN else if rg y = INF then x else mk (sg x ^^ decide (remN (rv (rg x)) (rv (rg y)) < 0)) (wd (nr (rv (rg x)) (rv (rg y))))

theorem remW_nan {x y : Nat} (h : INF ≤ rg x ∨ rg y = 0 ∨ INF < rg y) : remW x y = qNaN := by unfold remW; rw [if_pos h]
theorem remW_inf {x y : Nat} (h1 : rg x < INF) (h : rg y = INF) : remW x y = x := by
  have hI := INF_val
  unfold remW; rw [if_neg (by omega), if_pos h]
theorem remW_num {x y : Nat} (h1 : rg x < INF) (h2 : rg y ≠ 0) (h3 : rg y < INF) : remW x y = mk (sg x ^^ decide (remN (rv (rg x)) (rv (rg y)) < 0)) (wd (nr (rv (rg x)) (rv (rg y)))) := by
  unfold remW; rw [if_neg (by omega), if_neg (by omega)]
theorem remW_fits {x y : Nat} (h1 : rg x < INF) (h2 : rg y ≠ 0) : Fits (nr (rv (rg x)) (rv (rg y))) :=
  fits_nr (fits_rv h1) (rep_rv _) (rv_pos (by omega))
theorem remW_lt {x y : Nat} (hx : x < 2 ^ 64) : remW x y < 2 ^ 64 := by
  unfold remW
  split
  · decide
  · split
    · exact hx
    · have hF := remW_fits (x := x) (y := y) (by omega) (by omega)
      exact mkwd_lt _ hF.rep hF.lt

/-- the nearest remainder of integers -/
def remi (u v : Int) : Int := if u < 0 then -(remN u.natAbs v.natAbs) else remN u.natAbs v.natAbs
def remv : Val → Val → Val
  | .num u, .num v => if v = 0 then .nan else .num (remi u v)
  | .num u, .inf _ => .num u
  | _, _ => .nan

theorem remN_zero (Y : Nat) : remN 0 Y = 0 := by
  unfold remN
  rw [Nat.zero_mod, if_pos (by omega)]; rfl

theorem vl_remW (x y : Nat) : vl (remW x y) = remv (vl x) (vl y) := by
  have hI := INF_val
  rcases vl_cases x with ⟨h1, e1⟩ | ⟨h1, e1⟩ | ⟨h1, e1⟩ <;> rcases vl_cases y with ⟨h2, e2⟩ | ⟨h2, e2⟩ | ⟨h2, e2⟩ <;> rw [e1, e2]
  · rw [remW_nan (by omega)]; exact vl_qNaN
  · rw [remW_nan (by omega)]; exact vl_qNaN
  · rw [remW_nan (by omega)]; exact vl_qNaN
  · rw [remW_nan (by omega)]; exact vl_qNaN
  · rw [remW_nan (by omega)]; exact vl_qNaN
  · rw [remW_nan (by omega)]; exact vl_qNaN
  · rw [remW_nan (by omega)]; exact vl_qNaN
  · rw [remW_inf h1 h2, e1]; rfl
  · show _ = if fv y = 0 then Val.nan else .num (remi (fv x) (fv y))
    by_cases h0 : rg y = 0
    · rw [remW_nan (by omega), if_pos ((fv_zero_iff y).2 h0)]; exact vl_qNaN
    · rw [if_neg (fun h => h0 ((fv_zero_iff y).1 h)), remW_num h1 h0 h2, vl_mkwd _ (remW_fits h1 h0)]
      congr 1
      unfold remi
      rw [fv_natAbs, fv_natAbs]
      have hn : nr (rv (rg x)) (rv (rg y)) = (remN (rv (rg x)) (rv (rg y))).natAbs := rfl
      by_cases hz : fv x = 0
      · have hr := (fv_zero_iff x).1 hz
        rw [hz, hn, hr, rv_zero, remN_zero]
        cases sg x <;> rfl
      · rw [fv_sign hz, hn]
        generalize remN (rv (rg x)) (rv (rg y)) = R
        by_cases p : fv x < 0 <;> by_cases q : R < 0 <;> simp [p, q] <;> omega

end Go.Proofs.Ytelhgahbhbinoaa.Flt
