/-
  The walk of laws.FnEuclidWhole: it returns true, for all integers.
-/
import Derived.Test.YtmhdjhfkndfhmaaEnd
import Derived.Test.YtmhdjhfkndfhmaaOfi
namespace Go.Proofs.Ytmhdjhfkndfhmaa.LEuclidWhole
open Go.RowKit Flt

theorem gcd_step (a b : Int) : Nat.gcd b.natAbs (a.tmod b).natAbs = Nat.gcd a.natAbs b.natAbs := by
  rw [Int.natAbs_tmod, Nat.gcd_comm a.natAbs, Nat.gcd_rec b.natAbs a.natAbs, Nat.gcd_comm]

set_option maxHeartbeats 800000 in
theorem divisor_any (a b : Int) (w : World) (ha : a.natAbs ≤ 2 ^ 53) (hb : b.natAbs ≤ 2 ^ 53) :
    Calls Try.prog 24 #[.int .i64 a, .int .i64 b] w fun e w' => e = .returned (.int .i64 (Nat.gcd a.natAbs b.natAbs)) ∧ Qt w w' := by
  go_enter Try.func24, Try.ntmps24
  go_wp2
  go_loopw [0, 1] (fun x y wr => ∃ u v : Int, x = .int .i64 u ∧ y = .int .i64 v ∧ u.natAbs ≤ 2 ^ 53 ∧ v.natAbs ≤ 2 ^ 53 ∧ Hid (Nat.gcd u.natAbs v.natAbs = Nat.gcd a.natAbs b.natAbs) ∧ Qt w wr) (fun _ y _ => (intOf y).natAbs)
  case atStart => exact ⟨a, b, rfl, rfl, ha, hb, rfl, Qt.refl _⟩
  case round =>
    obtain ⟨u, v, rfl, rfl, hu, hv, hg, hq⟩ := hrel
    by_cases h0 : v = 0
    · subst h0
      have hg' : Hid (((Nat.gcd a.natAbs b.natAbs : Nat) : Int) = (u.natAbs : Int)) := by
        show _ = _
        rw [← hg.out, Int.natAbs_zero, Nat.gcd_zero_right]
      clear hg
      rcases Int.lt_or_le u 0 with h1 | h1
      · have t1 : decide (u < 0) = true := decide_eq_true h1
        have hw1 : IntKind.i64.wrap (-u) = (u.natAbs : Int) := by rw [IntWalk.i64_in _ (by omega)]; omega
        go_wp2
        go_ret
        exact ⟨by rw [hg'.out]; rfl, hq⟩
      · have t1 : decide (u < 0) = false := decide_eq_false (by omega)
        go_wp2
        go_ret
        exact ⟨by rw [hg'.out, show (u.natAbs : Int) = u by omega]; rfl, hq⟩
    · have t0 : (v == 0) = false := by simp [h0]
      have t1 : (v != 0) = true := by simp [h0]
      have hst := Lib.hid ((gcd_step u v).trans hg.out)
      have hlt := Nat.mod_lt u.natAbs (show 0 < v.natAbs by omega)
      rw [← Int.natAbs_tmod] at hlt
      have hlt := Lib.hid hlt
      clear hg
      go_wp2
      go_quiet (fail)
      go_wp2
      go_roundw
      case rel => exact ⟨v, u.tmod v, rfl, rfl, hv, by have := hlt.out; omega, hst.out, hq.drewN _⟩
      case measure => exact hlt.out

theorem two (f : Nat → Nat → Nat) (x y : Nat) : 2 ≤ (x :: y :: chw f 198 x y).length ∧ (x :: y :: chw f 198 x y).length ≤ 200 := by
  have h := chw_len f 198 x y
  simp only [List.length_cons]
  omega
theorem gcd_le {a b : Int} (hb : b.natAbs ≤ 2 ^ 53) (h0 : b ≠ 0) : Nat.gcd a.natAbs b.natAbs ≤ 2 ^ 53 :=
  Nat.le_trans (Nat.gcd_le_right _ (by omega)) hb
theorem last_eq {L : List Nat} {g : Nat} (hg : g ≤ 2 ^ 53) (E : EndW L (g * U)) : (FloatKind.f64.format.order (absW (lastW L)) (floatOfInt .f64 (g : Int)) == some .eq) = true := by
  have hF := fits_small hg
  obtain ⟨a1, a2⟩ := abs_fin (E.word _ E.last_mem) (E.fin _ E.last_mem)
  have hv : rv (rg (lastW L)) = g * U := E.val
  rw [ofInt_sw (show (g : Int).natAbs ≤ 2 ^ 53 by rw [Int.natAbs_natCast]; exact hg), show (g : Int) * (U : Int) = ((g * U : Nat) : Int) from (Int.natCast_mul g U).symm, sw_nat]
  rw [c_eq (Nat.le_of_lt a1) (Nat.le_of_lt hF.fin), decide_eq_true ((fv_eq_iff _ _).1 (by rw [a2, hv, hF.fv]))]

set_option maxRecDepth 100000 in
set_option maxHeartbeats 3200000 in
theorem walkIn (w : World) (a b : Int) (ha : a.natAbs ≤ 2 ^ 53) (hb : b.natAbs ≤ 2 ^ 53) (h0 : b ≠ 0) :
    Calls Try.prog 6 #[.int .i64 a, .int .i64 b] w fun e w' => e = .returned (.bool true) ∧ Below w.heap.size w w' := by
  have hca := conv_run a
  have hcb := conv_run b
  have IA := Lib.hid (fun W : World => isExact_yes a W (by omega) (by omega))
  have IB := Lib.hid (fun W : World => isExact_yes b W (by omega) (by omega))
  have HD := Lib.hid (fun W : World => divisor_any a b W ha hb)
  have hgl := gcd_le (a := a) hb h0
  have hFx := fits_i ha
  have hFy := fits_i hb
  have ex := ofInt_sw ha
  have ey := ofInt_sw hb
  have hx : floatOfInt .f64 a < 2 ^ 64 := by rw [ex]; exact sw_lt64 hFx
  have hy : floatOfInt .f64 b < 2 ^ 64 := by rw [ey]; exact sw_lt64 hFy
  have fx : rg (floatOfInt .f64 a) < INF := by rw [ex]; exact sw_fin hFx
  have fy : rg (floatOfInt .f64 b) < INF := by rw [ey]; exact sw_fin hFy
  have vx : (fv (floatOfInt .f64 a)).natAbs = a.natAbs * U := by rw [ex, fv_sw hFx, mulU_abs]
  have vy : (fv (floatOfInt .f64 b)).natAbs = b.natAbs * U := by rw [ey, fv_sw hFy, mulU_abs]
  have y0 : rg (floatOfInt .f64 b) ≠ 0 := by
    intro h
    have h1 := (fv_zero_iff _).2 h
    rw [h1] at vy
    have := U_pos'
    have h2 : 0 < b.natAbs * U := Nat.mul_pos (by omega) this
    rw [← vy] at h2
    exact absurd h2 (by decide)
  have E1 := euc_ends hx hy fx fy y0
  have E2 := nea_ends hx hy fx fy y0
  rw [vx, vy, Nat.gcd_mul_right] at E1 E2
  have q1 := last_eq hgl E1
  have q2 := last_eq hgl E2
  have HE := Lib.hid (fun W : World => euclid_any _ _ W hx hy)
  have HN := Lib.hid (fun W : World => nearest_any _ _ W hx hy)
  obtain ⟨l1, l2⟩ : 2 ≤ (eucW (floatOfInt .f64 a) (floatOfInt .f64 b)).length ∧ (eucW (floatOfInt .f64 a) (floatOfInt .f64 b)).length ≤ 200 := two modW _ _
  obtain ⟨l3, l4⟩ : 2 ≤ (neaW (floatOfInt .f64 a) (floatOfInt .f64 b)).length ∧ (neaW (floatOfInt .f64 a) (floatOfInt .f64 b)).length ≤ 200 := two remW _ _
  generalize eucW (floatOfInt .f64 a) (floatOfInt .f64 b) = L at *
  generalize neaW (floatOfInt .f64 a) (floatOfInt .f64 b) = M at *
  clear ex ey hx hy fx fy vx vy y0 hFx hFy hgl ha hb
  generalize Nat.gcd a.natAbs b.natAbs = g at *
  have hcg := conv_run (g : Int)
  generalize floatOfInt .f64 (g : Int) = G at *
  generalize floatOfInt .f64 a = X at *
  generalize floatOfInt .f64 b = Y at *
  have t0 : (b == 0) = false := by simp [h0]
  have HA1 := Lib.hid (fun W : World => specAbs_any (lastW L) W (E1.word _ E1.last_mem) (nan_false.2 (Nat.le_of_lt (E1.fin _ E1.last_mem))))
  have HA2 := Lib.hid (fun W : World => specAbs_any (lastW M) W (E2.word _ E2.last_mem) (nan_false.2 (Nat.le_of_lt (E2.fin _ E2.last_mem))))
  have h0' := Lib.hid h0
  clear h0
  have E1 := Lib.hid E1
  have E2 := Lib.hid E2
  go_enter Try.func6, Try.ntmps6
  go_wp2_with (go_at_call 23; first | (((with_reducible refine (IA.out _).mono ?_)); rintro e w' ⟨rfl, rfl⟩) | (((with_reducible refine (IB.out _).mono ?_)); rintro e w' ⟨rfl, rfl⟩))
  ((with_reducible refine (HE.out _).mono ?_); rintro e w1 ⟨A1, c1, rfl, _, hown1, hbel1⟩)
  have hr1 := Lib.hid (Rd.of_own hown1)
  rw [fl_len]
  clear hown1
  go_wp2_with fail
  ((with_reducible refine (HN.out _).mono ?_); rintro e w2 ⟨A2, c2, rfl, _, hown2, hbel2⟩)
  have hr2 := Lib.hid (Rd.of_own hown2)
  have hr1 := Lib.hid ((hr1.out.below hbel2).more hbel2.size)
  rw [fl_len]
  clear hown2
  have HB := Lib.hid (hbel1.trans (hbel2.mono hbel1.size))
  clear hbel1 hbel2
  generalize hLn : L.length = ln at *
  generalize hMn : M.length = mn at *
  go_wp2_with fail
  ((with_reducible refine (HD.out _).mono ?_); rintro e w3 ⟨rfl, q3⟩)
  have HE1 := Lib.hid (ends_any L A1 c1 ln _ w3 E1.out hLn (hr1.out.qt q3))
  have HE2 := Lib.hid (ends_any M A2 c2 mn _ w3 E2.out hMn (hr2.out.qt q3))
  have HL1 := Lib.hid (last_any L A1 c1 ln _ w3 ⟨l1, l2⟩ hLn (hr1.out.qt q3))
  have HL2 := Lib.hid (last_any M A2 c2 mn _ w3 ⟨l3, l4⟩ hMn (hr2.out.qt q3))
  generalize lastW L = u at *
  generalize lastW M = v at *
  go_wp2_with (first | (go_at_call 19; first | (((with_reducible refine HE1.out.mono ?_)); rintro e w' ⟨rfl, rfl⟩) | (((with_reducible refine HE2.out.mono ?_)); rintro e w' ⟨rfl, rfl⟩)) | (go_at_call 21; first | (((with_reducible refine HL1.out.mono ?_)); rintro e w' ⟨rfl, rfl⟩) | (((with_reducible refine HL2.out.mono ?_)); rintro e w' ⟨rfl, rfl⟩)) | (go_at_call 15; first | (((with_reducible refine (HA1.out _).mono ?_)); rintro e w' ⟨rfl, rfl⟩) | (((with_reducible refine (HA2.out _).mono ?_)); rintro e w' ⟨rfl, rfl⟩)))
  go_ret
  exact ⟨rfl, HB.out.trans (q3.below _)⟩

set_option maxHeartbeats 800000 in
theorem walk (w : World) (a : Int) (_ha : -9223372036854775808 ≤ a ∧ a ≤ 9223372036854775807) (b : Int) (_hb : -9223372036854775808 ≤ b ∧ b ≤ 9223372036854775807) :
    Calls Try.prog 6 #[.int .i64 a, .int .i64 b] w fun e w' => e = .returned (.bool true) ∧ Below w.heap.size w w' := by
  by_cases h1 : -9007199254740992 ≤ a ∧ a ≤ 9007199254740992
  · by_cases h2 : -9007199254740992 ≤ b ∧ b ≤ 9007199254740992
    · by_cases h0 : b = 0
      · subst h0
        have IA := Lib.hid (fun W : World => isExact_yes a W h1.1 h1.2)
        have IB := Lib.hid (fun W : World => isExact_yes 0 W h2.1 h2.2)
        clear h1 h2 _ha _hb
        go_enter Try.func6, Try.ntmps6
        go_wp2_with (go_at_call 23; first | (((with_reducible refine (IA.out _).mono ?_)); rintro e w' ⟨rfl, rfl⟩) | (((with_reducible refine (IB.out _).mono ?_)); rintro e w' ⟨rfl, rfl⟩))
        go_ret
        exact ⟨rfl, Below.refl _ _⟩
      · exact walkIn w a b (by omega) (by omega) h0
    · have IA := Lib.hid (fun W : World => isExact_yes a W h1.1 h1.2)
      have IB := Lib.hid (fun W : World => isExact_no b W (by omega))
      clear h1 h2 _ha _hb
      go_enter Try.func6, Try.ntmps6
      go_wp2_with (go_at_call 23; first | (((with_reducible refine (IA.out _).mono ?_)); rintro e w' ⟨rfl, rfl⟩) | (((with_reducible refine (IB.out _).mono ?_)); rintro e w' ⟨rfl, rfl⟩))
      go_ret
      exact ⟨rfl, Below.refl _ _⟩
  · have IA := Lib.hid (fun W : World => isExact_no a W (by omega))
    clear h1 _ha _hb
    go_enter Try.func6, Try.ntmps6
    go_wp2_with (go_at_call 23; ((with_reducible refine (IA.out _).mono ?_)); rintro e w' ⟨rfl, rfl⟩)
    go_ret
    exact ⟨rfl, Below.refl _ _⟩
end Go.Proofs.Ytmhdjhfkndfhmaa.LEuclidWhole
