/-
  Contract of the reference's Remainder, on values.
-/
import Derived.Test.YtmhdjhfkndfhmaaSpN
import Derived.Test.YtmhdjhfkndfhmaaFch
namespace Go.Proofs.Ytmhdjhfkndfhmaa
open Go.RowKit Flt

/-- the nearest remainder by the remainder and by whether the quotient is odd -/
theorem remN_by {X Y : Nat} (h : 0 < Y) : remN X Y = if Y < 2 * (X % Y) ∨ (2 * (X % Y) = Y ∧ X / Y % 2 = 1) then ((X % Y : Nat) : Int) - Y else ((X % Y : Nat) : Int) := by
  have hm := Nat.mod_lt X h
  have hq : X % (2 * Y) = X % Y + Y * (X / Y % 2) := by
    have h1 := Nat.mod_add_div X Y
    have h2 := Nat.mod_add_div (X / Y) 2
    have h3 : X = X % Y + Y * (X / Y % 2) + 2 * Y * (X / Y / 2) := by
      conv => lhs; rw [← h1, ← h2]
      rw [Nat.mul_add, ← Nat.add_assoc, Nat.mul_comm 2 Y, Nat.mul_assoc]
    have h4 : X % Y + Y * (X / Y % 2) < 2 * Y := by
      rcases Nat.mod_two_eq_zero_or_one (X / Y) with e | e <;> rw [e] <;> omega
    conv => lhs; rw [h3]
    rw [Nat.add_mul_mod_self_left, Nat.mod_eq_of_lt h4]
  unfold remN
  rw [hq]
  rcases Nat.mod_two_eq_zero_or_one (X / Y) with e | e <;> rw [e]
  · rw [Nat.mul_zero, Nat.add_zero]
    by_cases hc : Y < 2 * (X % Y)
    · rw [if_neg (by omega), if_pos (by omega), if_pos (Or.inl hc)]
    · rw [if_pos (by omega), if_neg (by omega)]
  · rw [Nat.mul_one]
    by_cases hc : Y < 2 * (X % Y) ∨ (2 * (X % Y) = Y ∧ 1 = 1)
    · rw [if_pos hc, if_neg (by omega), if_neg (by omega)]; omega
    · rw [if_neg hc, if_neg (by omega), if_pos (by omega)]; omega

/-- the other remainder is taken -/
def flip (r d : Nat) (odd : Bool) : Prop := 0 < d ∧ (d < 2 * r ∨ (2 * r = d ∧ odd = true))

theorem dvd_rem {ma mb Ea Eb r d E : Nat} {odd : Bool} (h : Dvd ma mb Ea Eb r d E odd) (h0 : 0 < mb * 2 ^ Eb) :
    (flip r d odd → remN (ma * 2 ^ Ea) (mb * 2 ^ Eb) < 0 ∧ nr (ma * 2 ^ Ea) (mb * 2 ^ Eb) = (d - r) * 2 ^ E ∧ r < d) ∧ (¬ flip r d odd → ¬ remN (ma * 2 ^ Ea) (mb * 2 ^ Eb) < 0 ∧ nr (ma * 2 ^ Ea) (mb * 2 ^ Eb) = r * 2 ^ E) := by
  have hr := h.r_eq
  have hb := remN_by (X := ma * 2 ^ Ea) h0
  have hm := Nat.mod_lt (ma * 2 ^ Ea) h0
  have hp := pow_pos E
  unfold nr
  rw [hb]
  rcases h.or with ⟨d0, hd, hrd, hodd⟩ | ⟨d0, hlt⟩
  · have c1 : mb * 2 ^ Eb < 2 * ((ma * 2 ^ Ea) % (mb * 2 ^ Eb)) ↔ d < 2 * r := by
      rw [← hr, ← hd, ← Nat.mul_assoc]
      exact Nat.mul_lt_mul_right hp
    have c2 : 2 * ((ma * 2 ^ Ea) % (mb * 2 ^ Eb)) = mb * 2 ^ Eb ↔ 2 * r = d := by
      rw [← hr, ← hd, ← Nat.mul_assoc]
      exact Nat.mul_right_cancel_iff hp
    have c3 : (ma * 2 ^ Ea) / (mb * 2 ^ Eb) % 2 = 1 ↔ odd = true := by rw [hodd, decide_eq_true_iff]
    have c4 : (mb * 2 ^ Eb < 2 * ((ma * 2 ^ Ea) % (mb * 2 ^ Eb)) ∨ (2 * ((ma * 2 ^ Ea) % (mb * 2 ^ Eb)) = mb * 2 ^ Eb ∧ (ma * 2 ^ Ea) / (mb * 2 ^ Eb) % 2 = 1)) ↔ flip r d odd := by
      rw [c1, c2, c3]
      exact ⟨fun h => ⟨d0, h⟩, fun h => h.2⟩
    have e1 : (d - r) * 2 ^ E = mb * 2 ^ Eb - (ma * 2 ^ Ea) % (mb * 2 ^ Eb) := by rw [Nat.mul_sub_right_distrib, hd, hr]
    refine ⟨fun hf => ?_, fun hf => ?_⟩
    · rw [if_pos (c4.2 hf), e1]
      exact ⟨by omega, by omega, hrd⟩
    · rw [if_neg (fun h => hf (c4.1 h)), hr]
      exact ⟨by omega, by omega⟩
  · have e : (ma * 2 ^ Ea) % (mb * 2 ^ Eb) = ma * 2 ^ Ea := Nat.mod_eq_of_lt (by omega)
    refine ⟨fun hf => absurd hf.1 (by omega), fun _ => ?_⟩
    rw [if_neg (by rw [e]; omega), hr]
    exact ⟨by omega, by omega⟩

theorem remv_zero {x y : Nat} (h : rg x = 0) (hy : rg y ≠ 0) (hyf : rg y ≤ INF) : remv (vl x) (vl y) = vl x := by
  have hx : rg x < INF := by rw [h]; decide
  rw [vl_fin hx, (fv_zero_iff x).2 h]
  rcases vl_cases y with ⟨h1, e1⟩ | ⟨h1, e1⟩ | ⟨h1, e1⟩ <;> rw [e1]
  · omega
  · rfl
  · show (if fv y = 0 then Val.nan else .num (remi 0 (fv y))) = _
    rw [if_neg (fun h => hy ((fv_zero_iff y).1 h))]
    unfold remi
    rw [if_neg (by omega), Int.natAbs_zero, remN_zero]

set_option maxHeartbeats 800000 in
theorem specRem_nan (x y : Nat) (w : World) (h : INF ≤ rg x ∨ rg y = 0 ∨ INF < rg y) :
    Calls Try.prog 44 #[.float .f64 x, .float .f64 y] w (SpGives .nan w) := by
  have HD := Lib.hid (divides_nan x y w h)
  clear h
  go_enter Try.func44, Try.ntmps44
  go_wp2_with (go_at_call 56; ((with_reducible refine HD.out.mono ?_)); rintro e w1 ⟨b, rfl, vb, lb, qb⟩; have V := Lib.hid vb; clear vb)
  go_ret
  exact ⟨b, rfl, V.out, lb, qb.below _⟩
set_option maxHeartbeats 800000 in
theorem specRem_told (x y : Nat) (w : World) (hxl : x < 2 ^ 64) (hx : rg x < INF) (hy0 : rg y ≠ 0) (hy : rg y ≤ INF) (h : rg y = INF ∨ rg x = 0) :
    Calls Try.prog 44 #[.float .f64 x, .float .f64 y] w (SpGives (vl x) w) := by
  have HD := Lib.hid (divides_told x y w hx hy0 hy h)
  clear h hx hy0 hy
  go_enter Try.func44, Try.ntmps44
  go_wp2_with (go_at_call 56; ((with_reducible refine HD.out.mono ?_)); rintro e w1 ⟨rfl, qb⟩)
  go_ret
  exact ⟨x, rfl, rfl, hxl, qb.below _⟩

theorem gt_zero_sg {x : Nat} (h : rg x ≠ 0) (h1 : rg x ≤ INF) : (FloatKind.f64.format.order x 0 == some .gt) = !sg x := by
  rw [c_gt h1 rg_zero_le, key_zero]
  unfold key
  cases sg x
  · rw [if_neg (by decide)]; exact decide_eq_true (by omega)
  · rw [if_pos rfl]; exact decide_eq_false (by omega)

set_option maxRecDepth 100000 in
set_option maxHeartbeats 3200000 in
theorem specRem_yes (x y : Nat) (w : World) (hxl : x < 2 ^ 64) (hyl : y < 2 ^ 64) (hx : rg x < INF) (hx0 : rg x ≠ 0) (hy0 : rg y ≠ 0) (hy : rg y < INF) :
    Calls Try.prog 44 #[.float .f64 x, .float .f64 y] w (SpGives (remv (vl x) (vl y)) w) := by
  have HD := Lib.hid (divides_yes x y w hx hx0 hy0 hy)
  have HP := Lib.hid (fun W : World => partsOf_pos x W hxl hx (by omega))
  have HQ := Lib.hid (fun W : World => partsOf_pos y W hyl hy (by omega))
  have hbd := build3
  have b1 := lt_zero_sg hx0 (Nat.le_of_lt hx)
  have b2 := gt_zero_sg hx0 (Nat.le_of_lt hx)
  have hv := Lib.hid (vl_remW x y)
  have hF := remW_fits (x := x) (y := y) hx hy0
  rw [remW_num hx hy0 hy] at hv
  have hl := Lib.hid (fun s : Bool => mkwd_lt s hF.rep hF.lt)
  have hFF := Lib.hid hF
  have hyp := rv_pos (r := rg y) (by omega)
  generalize remv (vl x) (vl y) = V at *
  generalize sg x = s at *
  clear hF
  go_enter Try.func44, Try.ntmps44
  go_wp2_with (go_at_call 56; ((with_reducible refine HD.out.mono ?_)); rintro e w1 ⟨rfl, rfl⟩)
  ((with_reducible refine (HP.out _).mono ?_); rintro e w1 ⟨m, E, hP, hE, rfl, bl1⟩)
  go_wp2_with fail
  ((with_reducible refine (HQ.out _).mono ?_); rintro e w2 ⟨m', E', hP', hE', rfl, bl2⟩)
  have h0' : 0 < m' := by
    rcases Nat.eq_zero_or_pos m' with h | h
    · have := hP'.eq
      rw [h, Nat.zero_mul] at this
      omega
    · exact h
  have HDv := Lib.hid (fun W : World => divided_any s (sg y) m m' E E' W hP.lt hP'.lt h0' hE hE')
  have e1 := Lib.hid hP.eq
  have e2 := Lib.hid hP'.eq
  clear hP hP'
  go_wp2_with fail
  ((with_reducible refine (HDv.out _).mono ?_); rintro e w3 ⟨r, d, F, odd, rfl, hDv, bl3⟩)
  obtain ⟨f1, f2⟩ := dvd_rem hDv (by rw [e2.out]; exact hyp)
  rw [e1.out, e2.out] at f1 f2
  have hFE := hDv.E_le
  have hrl := hDv.r_lt
  have hdl := hDv.d_lt
  clear hDv HDv
  by_cases hfl : flip r d odd
  · obtain ⟨g1, g2, g3⟩ := f1 hfl
    rw [decide_eq_true g1, g2] at hv
    rw [g2] at hl hFF
    have hR : Rep (d - r) := hFF.out.rep.of_mul_pow
    have HV := Lib.hid (fun W : World => value_is (!s) (d - r) F (fits_U hR (by omega)) hFF.out (by omega) ((d : Int) - (r : Int)) ((F : Int) - 1074) (by omega) rfl W)
    have hlz := Lib.hid (hl.out (!s))
    rw [Bool.xor_true] at hv
    obtain ⟨d0, hor⟩ := hfl
    have t0 : decide ((0 : Int) < (d : Int)) = true := decide_eq_true (by omega)
    have hfl' : (decide ((d : Int) < 2 * (r : Int)) = true) ∨ (decide ((d : Int) < 2 * (r : Int)) = false ∧ ((2 * (r : Int)) == (d : Int)) = true ∧ odd = true) := by
      rcases hor with h | ⟨h, h'⟩
      · exact Or.inl (decide_eq_true (by omega))
      · exact Or.inr ⟨decide_eq_false (by omega), by simp; omega, h'⟩
    clear f1 f2 g1 g2 hR hFF hor hl
    generalize mk (!s) (wd ((d - r) * 2 ^ F)) = z at *
    rcases hfl' with t1 | ⟨t1, t2, rfl⟩
    all_goals
      go_wp2_with (go_at_call 59; ((with_reducible refine (HV.out _).mono ?_)); rintro e w4 ⟨rfl, bl4⟩)
      go_ret
      exact ⟨z, rfl, hv.out, hlz.out, below3 bl1 bl2 bl3 bl4⟩
  · obtain ⟨g1, g2⟩ := f2 hfl
    rw [decide_eq_false g1, g2] at hv
    rw [g2] at hl hFF
    have HV := Lib.hid (fun W : World => value_is s r F (fits_small (Nat.le_of_lt hrl)) hFF.out (by omega) (r : Int) ((F : Int) - 1074) rfl rfl W)
    have hlz := Lib.hid (hl.out s)
    rw [Bool.xor_false] at hv
    have hfl' : (decide ((0 : Int) < (d : Int)) = false ∧ decide (0 < d) = false) ∨ (0 < d ∧ decide ((d : Int) < 2 * (r : Int)) = false ∧ ((2 * (r : Int)) == (d : Int)) = false) ∨ (0 < d ∧ decide ((d : Int) < 2 * (r : Int)) = false ∧ ((2 * (r : Int)) == (d : Int)) = true ∧ odd = false) := by
      rcases Nat.eq_zero_or_pos d with h | h
      · exact Or.inl ⟨decide_eq_false (by omega), decide_eq_false (by omega)⟩
      · right
        have hn : ¬ d < 2 * r := fun h' => hfl ⟨h, Or.inl h'⟩
        by_cases he : 2 * r = d
        · right
          refine ⟨h, decide_eq_false (by omega), by simp; omega, ?_⟩
          cases odd
          · rfl
          · exact absurd ⟨h, Or.inr ⟨he, rfl⟩⟩ hfl
        · left
          exact ⟨h, decide_eq_false (by omega), by simp; omega⟩
    clear f1 f2 g1 g2 hFF hl hfl
    generalize mk s (wd (r * 2 ^ F)) = z at *
    rcases hfl' with ⟨t0, t0'⟩ | ⟨t0, t1, t2⟩ | ⟨t0, t1, t2, rfl⟩
    all_goals
      go_wp2_with (go_at_call 59; ((with_reducible refine (HV.out _).mono ?_)); rintro e w4 ⟨rfl, bl4⟩)
      go_ret
      exact ⟨z, rfl, hv.out, hlz.out, below3 bl1 bl2 bl3 bl4⟩

theorem specRem_any (x y : Nat) (w : World) (hxl : x < 2 ^ 64) (hyl : y < 2 ^ 64) :
    Calls Try.prog 44 #[.float .f64 x, .float .f64 y] w (SpGives (remv (vl x) (vl y)) w) := by
  by_cases h : INF ≤ rg x ∨ rg y = 0 ∨ INF < rg y
  · have e := vl_remW x y
    rw [remW_nan h, vl_qNaN] at e
    rw [← e]
    exact specRem_nan x y w h
  by_cases h2 : rg y = INF ∨ rg x = 0
  · have e : remv (vl x) (vl y) = vl x := by
      rcases h2 with h2 | h2
      · rw [vl_fin (show rg x < INF by omega), vl_inf h2]; rfl
      · exact remv_zero h2 (by omega) (by omega)
    rw [e]
    exact specRem_told x y w hxl (by omega) (by omega) (by omega) h2
  · exact specRem_yes x y w hxl hyl (by omega) (by omega) (by omega) (by omega)
end Go.Proofs.Ytmhdjhfkndfhmaa
