/-
  Contracts of the reference: divides, Mod, Remainder, on values.
-/
import Derived.Test.YtmhdjhfkndfhmaaSpM
import Derived.Test.YtmhdjhfkndfhmaaLibE
namespace Go.Proofs.Ytmhdjhfkndfhmaa
open Go.RowKit Flt

/-- a word of this value comes back; nothing that was there has turned -/
def SpGives (V : Val) (w : World) (e : Ending) (w' : World) : Prop := ∃ b, e = .returned (.float .f64 b) ∧ vl b = V ∧ b < 2 ^ 64 ∧ Below w.heap.size w w'

set_option maxHeartbeats 800000 in
theorem divides_nan (x y : Nat) (w : World) (h : INF ≤ rg x ∨ rg y = 0 ∨ INF < rg y) :
    Calls Try.prog 56 #[.float .f64 x, .float .f64 y] w fun e w' => ∃ b, e = .returned (.tuple #[.float .f64 b, .bool false]) ∧ vl b = .nan ∧ b < 2 ^ 64 ∧ Qt w w' := by
  have HN := Lib.hid (fun W : World => specNaN_any W)
  rcases Nat.lt_or_ge (rg x) INF with hx | hx
  · have HX := Lib.hid (fun W : World => specFinite_yes x W hx)
    have b1 := c_self y
    by_cases hn : INF < rg y
    · rw [nan_true.2 hn] at b1
      clear h hx hn
      go_enter Try.func56, Try.ntmps56
      go_wp2_with (first | (go_at_call 14; ((with_reducible refine (HX.out _).mono ?_)); rintro e w' ⟨rfl, rfl⟩) | (go_at_call 64; ((with_reducible refine (HN.out _).mono ?_)); rintro e w' ⟨b, rfl, nb, lb, qb⟩))
      go_ret2
      exact ⟨b, rfl, vl_nan (nan_true.1 nb), lb, qb⟩
    · rw [nan_false.2 (show rg y ≤ INF by omega)] at b1
      have b0 := eq_zero_of (y := y) (by omega)
      clear h hx hn
      go_enter Try.func56, Try.ntmps56
      go_wp2_with (first | (go_at_call 14; ((with_reducible refine (HX.out _).mono ?_)); rintro e w' ⟨rfl, rfl⟩) | (go_at_call 64; ((with_reducible refine (HN.out _).mono ?_)); rintro e w' ⟨b, rfl, nb, lb, qb⟩))
      go_ret2
      exact ⟨b, rfl, vl_nan (nan_true.1 nb), lb, qb⟩
  · have HX := Lib.hid (fun W : World => specFinite_no x W hx)
    clear h hx
    go_enter Try.func56, Try.ntmps56
    go_wp2_with (first | (go_at_call 14; ((with_reducible refine (HX.out _).mono ?_)); rintro e w1 ⟨rfl, q1⟩) | (go_at_call 64; ((with_reducible refine (HN.out _).mono ?_)); rintro e w' ⟨b, rfl, nb, lb, qb⟩))
    go_ret2
    exact ⟨b, rfl, vl_nan (nan_true.1 nb), lb, q1.trans qb⟩

set_option maxHeartbeats 800000 in
theorem divides_told (x y : Nat) (w : World) (hx : rg x < INF) (hy0 : rg y ≠ 0) (hy : rg y ≤ INF) (h : rg y = INF ∨ rg x = 0) :
    Calls Try.prog 56 #[.float .f64 x, .float .f64 y] w fun e w' => e = .returned (.tuple #[.float .f64 x, .bool false]) ∧ Qt w w' := by
  have HX := Lib.hid (fun W : World => specFinite_yes x W hx)
  have b1 := c_self y
  rw [nan_false.2 hy] at b1
  have b0 := ne_zero_of hy0
  rcases Nat.lt_or_ge (rg y) INF with hyf | hyf
  · have HY := Lib.hid (fun W : World => specFinite_yes y W hyf)
    have b2 := eq_zero_of (y := x) (by omega)
    clear h hx hy0 hy hyf
    go_enter Try.func56, Try.ntmps56
    go_wp2_with (go_at_call 14; first | (((with_reducible refine (HX.out _).mono ?_)); rintro e w' ⟨rfl, rfl⟩) | (((with_reducible refine (HY.out _).mono ?_)); rintro e w' ⟨rfl, rfl⟩))
    go_ret2
    exact ⟨rfl, Qt.refl _⟩
  · have HY := Lib.hid (fun W : World => specFinite_no y W hyf)
    clear h hx hy0 hy hyf
    go_enter Try.func56, Try.ntmps56
    go_wp2_with (go_at_call 14; first | (((with_reducible refine (HX.out _).mono ?_)); rintro e w' ⟨rfl, rfl⟩) | (((with_reducible refine (HY.out _).mono ?_)); rintro e w1 ⟨rfl, q1⟩))
    go_ret2
    exact ⟨rfl, q1⟩

set_option maxHeartbeats 800000 in
theorem divides_yes (x y : Nat) (w : World) (hx : rg x < INF) (hx0 : rg x ≠ 0) (hy0 : rg y ≠ 0) (hy : rg y < INF) :
    Calls Try.prog 56 #[.float .f64 x, .float .f64 y] w fun e w' => e = .returned (.tuple #[.float .f64 0, .bool true]) ∧ w = w' := by
  have HX := Lib.hid (fun W : World => specFinite_yes x W hx)
  have HY := Lib.hid (fun W : World => specFinite_yes y W hy)
  have b1 := c_self y
  rw [nan_false.2 (Nat.le_of_lt hy)] at b1
  have b0 := ne_zero_of hy0
  have b2 := ne_zero_of hx0
  clear hx hy0 hy hx0
  go_enter Try.func56, Try.ntmps56
  go_wp2_with (go_at_call 14; first | (((with_reducible refine (HX.out _).mono ?_)); rintro e w' ⟨rfl, rfl⟩) | (((with_reducible refine (HY.out _).mono ?_)); rintro e w' ⟨rfl, rfl⟩))
  go_ret2
  exact ⟨rfl, rfl⟩

theorem below3 {w w1 w2 w3 w4 : World} (b1 : Below w.heap.size w w1) (b2 : Below w1.heap.size w1 w2) (b3 : Below w2.heap.size w2 w3) (b4 : Below w3.heap.size w3 w4) : Below w.heap.size w w4 := by
  have s1 := b1.size; have s2 := b2.size; have s3 := b3.size
  exact ((b1.trans (b2.mono s1)).trans (b3.mono (by omega))).trans (b4.mono (by omega))


theorem modv_zero {x y : Nat} (h : rg x = 0) (hy : rg y ≠ 0) (hyf : rg y ≤ INF) : modv (vl x) (vl y) = vl x := by
  have hx : rg x < INF := by rw [h]; decide
  rw [vl_fin hx, (fv_zero_iff x).2 h]
  rcases vl_cases y with ⟨h1, e1⟩ | ⟨h1, e1⟩ | ⟨h1, e1⟩ <;> rw [e1]
  · omega
  · rfl
  · show (if fv y = 0 then Val.nan else .num ((0 : Int).tmod (fv y))) = _
    rw [if_neg (fun h => hy ((fv_zero_iff y).1 h)), Int.zero_tmod]

set_option maxHeartbeats 800000 in
theorem specMod_nan (x y : Nat) (w : World) (h : INF ≤ rg x ∨ rg y = 0 ∨ INF < rg y) :
    Calls Try.prog 45 #[.float .f64 x, .float .f64 y] w (SpGives .nan w) := by
  have HD := Lib.hid (divides_nan x y w h)
  clear h
  go_enter Try.func45, Try.ntmps45
  go_wp2_with (go_at_call 56; ((with_reducible refine HD.out.mono ?_)); rintro e w1 ⟨b, rfl, vb, lb, qb⟩; have V := Lib.hid vb; clear vb)
  go_ret
  exact ⟨b, rfl, V.out, lb, qb.below _⟩
set_option maxHeartbeats 800000 in
theorem specMod_told (x y : Nat) (w : World) (hxl : x < 2 ^ 64) (hx : rg x < INF) (hy0 : rg y ≠ 0) (hy : rg y ≤ INF) (h : rg y = INF ∨ rg x = 0) :
    Calls Try.prog 45 #[.float .f64 x, .float .f64 y] w (SpGives (vl x) w) := by
  have HD := Lib.hid (divides_told x y w hx hy0 hy h)
  clear h hx hy0 hy
  go_enter Try.func45, Try.ntmps45
  go_wp2_with (go_at_call 56; ((with_reducible refine HD.out.mono ?_)); rintro e w1 ⟨rfl, qb⟩)
  go_ret
  exact ⟨x, rfl, rfl, hxl, qb.below _⟩

theorem fits_U {m : Nat} (h : Rep m) (hl : m < 2 ^ 62) : Fits (m * U) := by
  have he := e0_eq
  refine ⟨by rw [U_eq]; exact h.mul_pow _, ?_⟩
  rw [U_eq]
  have := Nat.mul_lt_mul_of_pos_right hl (pow_pos e0)
  rw [← Nat.pow_add] at this
  exact Nat.lt_trans this (pow_TOP (by omega))

set_option maxHeartbeats 1600000 in
theorem specMod_yes (x y : Nat) (w : World) (hxl : x < 2 ^ 64) (hyl : y < 2 ^ 64) (hx : rg x < INF) (hx0 : rg x ≠ 0) (hy0 : rg y ≠ 0) (hy : rg y < INF) :
    Calls Try.prog 45 #[.float .f64 x, .float .f64 y] w (SpGives (modv (vl x) (vl y)) w) := by
  have HD := Lib.hid (divides_yes x y w hx hx0 hy0 hy)
  have HP := Lib.hid (fun W : World => partsOf_pos x W hxl hx (by omega))
  have HQ := Lib.hid (fun W : World => partsOf_pos y W hyl hy (by omega))
  have hbd := build3
  have b1 := lt_zero_sg hx0 (Nat.le_of_lt hx)
  have hv := Lib.hid (vl_modW x y hxl)
  have hF := modW_fits (x := x) (y := y) hx hy0
  rw [modW_num hx hy0 (Nat.le_of_lt hy)] at hv
  have hl := Lib.hid (mkwd_lt (sg x) hF.rep hF.lt)
  have hFF := Lib.hid hF
  generalize modv (vl x) (vl y) = V at *
  generalize sg x = s at *
  clear hF
  go_enter Try.func45, Try.ntmps45
  go_wp2_with (go_at_call 56; ((with_reducible refine HD.out.mono ?_)); rintro e w1 ⟨rfl, rfl⟩)
  ((with_reducible refine (HP.out _).mono ?_); rintro e w1 ⟨m, E, hP, hE, rfl, bl1⟩)
  go_wp2_with fail
  ((with_reducible refine (HQ.out _).mono ?_); rintro e w2 ⟨m', E', hP', hE', rfl, bl2⟩)
  have h0' : 0 < m' := by
    rcases Nat.eq_zero_or_pos m' with h | h
    · have := hP'.eq
      rw [h, Nat.zero_mul] at this
      have := rv_pos (r := rg y) (by omega)
      omega
    · exact h
  have HDv := Lib.hid (fun W : World => divided_any s (sg y) m m' E E' W hP.lt hP'.lt h0' hE hE')
  have e1 := Lib.hid hP.eq
  have e2 := Lib.hid hP'.eq
  clear hP hP'
  go_wp2_with fail
  ((with_reducible refine (HDv.out _).mono ?_); rintro e w3 ⟨r, d, F, odd, rfl, hDv, bl3⟩)
  have hrv : Hid (r * 2 ^ F = rv (rg x) % rv (rg y)) := by have := hDv.r_eq; rw [e1.out, e2.out] at this; exact this
  have HV := Lib.hid (value_is s r F (fits_small (Nat.le_of_lt hDv.r_lt)) (by rw [hrv.out]; exact hFF.out) (by have := hDv.E_le; omega) (r : Int) ((F : Int) - 1074) rfl rfl)
  rw [hrv.out] at HV
  clear hDv HDv
  generalize mk s (wd (rv (rg x) % rv (rg y))) = z at *
  go_wp2_with (go_at_call 59; ((with_reducible refine (HV.out _).mono ?_)); rintro e w4 ⟨rfl, bl4⟩)
  go_ret
  exact ⟨z, rfl, hv.out, hl.out, below3 bl1 bl2 bl3 bl4⟩

theorem specMod_any (x y : Nat) (w : World) (hxl : x < 2 ^ 64) (hyl : y < 2 ^ 64) :
    Calls Try.prog 45 #[.float .f64 x, .float .f64 y] w (SpGives (modv (vl x) (vl y)) w) := by
  by_cases h : INF ≤ rg x ∨ rg y = 0 ∨ INF < rg y
  · have e := vl_modW x y hxl
    rw [modW_nan h, vl_qNaN] at e
    rw [← e]
    exact specMod_nan x y w h
  by_cases h2 : rg y = INF ∨ rg x = 0
  · have e : modv (vl x) (vl y) = vl x := by
      rcases h2 with h2 | h2
      · rw [vl_fin (show rg x < INF by omega), vl_inf h2]; rfl
      · exact modv_zero h2 (by omega) (by omega)
    rw [e]
    exact specMod_told x y w hxl (by omega) (by omega) (by omega) h2
  · exact specMod_yes x y w hxl hyl (by omega) (by omega) (by omega) (by omega)
end Go.Proofs.Ytmhdjhfkndfhmaa
