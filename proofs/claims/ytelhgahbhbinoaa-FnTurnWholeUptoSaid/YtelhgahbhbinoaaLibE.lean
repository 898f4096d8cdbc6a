/-
  Contract of math.Mod: the remainder of the absolute values, with the sign of the first number.
-/
import Derived.Test.YtelhgahbhbinoaaLibD
import Derived.Test.YtelhgahbhbinoaaFvm
import Derived.Deep.LoopGhost
namespace Go.Proofs.Ytelhgahbhbinoaa
open Go.RowKit Flt

theorem neg_run2 (b : Nat) (w : World) : (Op.unary .neg (.float .f64 b)).run Try.prog w = .ok (.float .f64 (Op.negFloat .f64 b)) w := rfl
theorem eq_zero_of {y : Nat} (h : rg y = 0) : (FloatKind.f64.format.order y 0 == some .eq) = true := by
  have hk : key y = 0 := by have := key_natAbs y; omega
  rw [c_eq (by rw [h]; exact Nat.zero_le _) rg_zero_le, key_zero, decide_eq_true hk]
theorem ne_zero_of {y : Nat} (h : rg y ≠ 0) : (FloatKind.f64.format.order y 0 == some .eq) = false := by
  rcases Nat.lt_or_ge INF (rg y) with h1 | h1
  · rw [c_nan (Or.inl h1)]; rfl
  · have hk : key y ≠ 0 := by have := key_natAbs y; omega
    rw [c_eq h1 rg_zero_le, key_zero, decide_eq_false hk]
theorem lt_zero_sg {x : Nat} (h : rg x ≠ 0) (h1 : rg x ≤ INF) : (FloatKind.f64.format.order x 0 == some .lt) = sg x := by
  rw [c_lt h1 rg_zero_le, key_zero]
  unfold key
  cases sg x
  · rw [if_neg (by decide)]; exact decide_eq_false (by omega)
  · rw [if_pos rfl]; exact decide_eq_true (by omega)
theorem lt_zero_no {x : Nat} (h : rg x = 0) : (FloatKind.f64.format.order x 0 == some .lt) = false := by
  have hk : key x = 0 := by have := key_natAbs x; omega
  rw [c_lt (by rw [h]; exact Nat.zero_le _) rg_zero_le, key_zero, hk]; rfl
theorem neg_neg_word {x : Nat} (hx : x < 2 ^ 64) : Op.negFloat .f64 (Op.negFloat .f64 x) = x := by
  rw [neg_bits _ (neg_lt x hx), sg_neg x hx, rg_neg x hx, Bool.not_not, mk_of hx]

set_option maxHeartbeats 800000 in
theorem mod_nan (x y : Nat) (w : World) (hx : x < 2 ^ 64) (h : INF ≤ rg x ∨ rg y = 0 ∨ INF < rg y) :
    Calls Try.prog 38 #[.float .f64 x, .float .f64 y] w fun e w' => e = .returned (.float .f64 qNaN) ∧ w = w' := by
  have HI := Lib.hid (fun W : World => isInf_any x W hx)
  have HX := Lib.hid (fun W : World => isNaN_any x W)
  have HY := Lib.hid (fun W : World => isNaN_any y W)
  have HN := Lib.hid (fun W : World => naN_any W)
  by_cases h0 : rg y = 0
  · have b0 := eq_zero_of h0
    clear h h0 hx
    go_enter Try.func38, Try.ntmps38
    go_wp2_with (go_at_call 47; ((with_reducible refine (HN.out _).mono ?_)); rintro e w' ⟨rfl, rfl⟩)
    go_ret
    exact ⟨rfl, rfl⟩
  have b0 := ne_zero_of h0
  by_cases h1 : rg x = INF
  · rw [decide_eq_true h1] at HI
    clear h h0 h1 hx
    go_enter Try.func38, Try.ntmps38
    go_wp2_with (first | (go_at_call 47; ((with_reducible refine (HN.out _).mono ?_)); rintro e w' ⟨rfl, rfl⟩) | (go_at_call 45; ((with_reducible refine (HI.out _).mono ?_)); rintro e w' ⟨rfl, rfl⟩))
    go_ret
    exact ⟨rfl, rfl⟩
  rw [decide_eq_false h1] at HI
  by_cases h2 : INF < rg x
  · rw [nan_true.2 h2] at HX
    clear h h0 h1 h2 hx
    go_enter Try.func38, Try.ntmps38
    go_wp2_with (first | (go_at_call 47; ((with_reducible refine (HN.out _).mono ?_)); rintro e w' ⟨rfl, rfl⟩) | (go_at_call 45; ((with_reducible refine (HI.out _).mono ?_)); rintro e w' ⟨rfl, rfl⟩) | (go_at_call 46; ((with_reducible refine (HX.out _).mono ?_)); rintro e w' ⟨rfl, rfl⟩))
    go_ret
    exact ⟨rfl, rfl⟩
  have h3 : INF < rg y := by omega
  rw [nan_false.2 (show rg x ≤ INF by omega)] at HX
  rw [nan_true.2 h3] at HY
  clear h h0 h1 h2 h3 hx
  go_enter Try.func38, Try.ntmps38
  go_wp2_with (first | (go_at_call 47; ((with_reducible refine (HN.out _).mono ?_)); rintro e w' ⟨rfl, rfl⟩) | (go_at_call 45; ((with_reducible refine (HI.out _).mono ?_)); rintro e w' ⟨rfl, rfl⟩) | (go_at_call 46; first | (((with_reducible refine (HX.out _).mono ?_)); rintro e w' ⟨rfl, rfl⟩) | (((with_reducible refine (HY.out _).mono ?_)); rintro e w' ⟨rfl, rfl⟩)))
  go_ret
  exact ⟨rfl, rfl⟩

/-- Frexp of an absolute value, whatever it gives -/
theorem frexp_some {y : Nat} (h0 : rg y ≠ 0) (h1 : rg y ≤ INF) : ∃ (f : Nat) (e : Int), ∀ W : World, Calls Try.prog 49 #[.float .f64 (rg y)] W fun e' w' => e' = .returned (.tuple #[.float .f64 f, .int .i64 e]) ∧ W = w' := by
  have hl := rg_lt y
  rcases Nat.lt_or_ge (rg y) INF with h | h
  · exact ⟨_, _, fun W => frexp_any (rg y) W (by omega) (by rw [rg_rg]; exact h0) (by rw [rg_rg]; exact h)⟩
  · exact ⟨_, _, fun W => frexp_any_inf (rg y) W (by omega) (by rw [rg_rg]; omega)⟩

set_option maxHeartbeats 800000 in
theorem mod_small (x y : Nat) (w : World) (hx : x < 2 ^ 64) (hy : y < 2 ^ 64) (h : rg x < rg y) (h1 : rg y ≤ INF) :
    Calls Try.prog 38 #[.float .f64 x, .float .f64 y] w fun e w' => e = .returned (.float .f64 x) ∧ w = w' := by
  have HI := Lib.hid (fun W : World => isInf_any x W hx)
  have HX := Lib.hid (fun W : World => isNaN_any x W)
  have HY := Lib.hid (fun W : World => isNaN_any y W)
  have HA := Lib.hid (fun W : World => mathAbs_any y W hy)
  rw [decide_eq_false (show ¬ rg x = INF by omega)] at HI
  rw [nan_false.2 (show rg x ≤ INF by omega)] at HX
  rw [nan_false.2 h1] at HY
  have b0 := ne_zero_of (y := y) (by omega)
  obtain ⟨f, e, hfe⟩ := frexp_some (y := y) (by omega) h1
  have HF := Lib.hid hfe
  have hng := neg_run2
  clear hfe
  by_cases hs : sg x = true ∧ rg x ≠ 0
  · have b1 := lt_zero_sg hs.2 (show rg x ≤ INF by omega)
    rw [hs.1] at b1
    have b2 : (FloatKind.f64.format.order (Op.negFloat .f64 x) (rg y) == some .gt || FloatKind.f64.format.order (Op.negFloat .f64 x) (rg y) == some .eq) = false := by
      rw [c_ge (by rw [rg_neg x hx]; omega) (by rw [rg_rg]; exact h1), key_rg, decide_eq_false]
      have := key_natAbs (Op.negFloat .f64 x)
      rw [rg_neg x hx] at this
      omega
    have hnn := neg_neg_word hx
    clear hs h h1 hx hy
    go_enter Try.func38, Try.ntmps38
    go_wp2_with (first | (go_at_call 48; ((with_reducible refine (HA.out _).mono ?_)); rintro e w' ⟨rfl, rfl⟩) | (go_at_call 49; ((with_reducible refine (HF.out _).mono ?_)); rintro e w' ⟨rfl, rfl⟩) | (go_at_call 45; ((with_reducible refine (HI.out _).mono ?_)); rintro e w' ⟨rfl, rfl⟩) | (go_at_call 46; first | (((with_reducible refine (HX.out _).mono ?_)); rintro e w' ⟨rfl, rfl⟩) | (((with_reducible refine (HY.out _).mono ?_)); rintro e w' ⟨rfl, rfl⟩)))
    refine wp_loop_rounds 1 ?_
    rw [rounds_succ]
    go_wp2
    go_ret
    exact ⟨rfl, rfl⟩
  · have b1 : (FloatKind.f64.format.order x 0 == some .lt) = false := by
      by_cases hz : rg x = 0
      · exact lt_zero_no hz
      · rw [lt_zero_sg hz (by omega)]
        cases hsg : sg x
        · rfl
        · exact absurd ⟨hsg, hz⟩ hs
    have b2 : (FloatKind.f64.format.order x (rg y) == some .gt || FloatKind.f64.format.order x (rg y) == some .eq) = false := by
      rw [c_ge (by omega) (by rw [rg_rg]; exact h1), key_rg, decide_eq_false]
      have := key_natAbs x
      omega
    clear hs h h1 hx hy
    go_enter Try.func38, Try.ntmps38
    go_wp2_with (first | (go_at_call 48; ((with_reducible refine (HA.out _).mono ?_)); rintro e w' ⟨rfl, rfl⟩) | (go_at_call 49; ((with_reducible refine (HF.out _).mono ?_)); rintro e w' ⟨rfl, rfl⟩) | (go_at_call 45; ((with_reducible refine (HI.out _).mono ?_)); rintro e w' ⟨rfl, rfl⟩) | (go_at_call 46; first | (((with_reducible refine (HX.out _).mono ?_)); rintro e w' ⟨rfl, rfl⟩) | (((with_reducible refine (HY.out _).mono ?_)); rintro e w' ⟨rfl, rfl⟩)))
    refine wp_loop_rounds 1 ?_
    rw [rounds_succ]
    go_wp2
    go_ret
    exact ⟨rfl, rfl⟩

theorem ge_wd {a b : Nat} (ha : Fits a) (hb : Fits b) : (FloatKind.f64.format.order (wd a) (wd b) == some .gt || FloatKind.f64.format.order (wd a) (wd b) == some .eq) = decide (b ≤ a) := by
  rw [c_ge (Nat.le_of_lt ha.fin) (Nat.le_of_lt hb.fin), ha.key, hb.key]
  have := wd_le_iff hb.rep ha.rep
  rw [decide_eq_decide]
  omega
theorem frw_lt {a b : Nat} (ha : Rep a) (hb : Rep b) (a0 : 0 < a) (b0 : 0 < b) : (FloatKind.f64.format.order (frw a) (frw b) == some .lt) = decide (nrm a < nrm b) := by
  have hI := INF_val
  obtain ⟨a1, a2⟩ := frw_bd ha a0
  obtain ⟨b1, b2⟩ := frw_bd hb b0
  have e1 : rg (frw a) = frw a := by unfold rg; omega
  have e2 : rg (frw b) = frw b := by unfold rg; omega
  have k1 := key_rg (frw a)
  have k2 := key_rg (frw b)
  rw [e1] at k1
  rw [e2] at k2
  rw [c_lt (by omega) (by omega), k1, k2, decide_eq_decide]
  unfold frw
  omega
theorem frexp_wd {g : Nat} (hF : Fits g) (h0 : 0 < g) (W : World) : Calls Try.prog 49 #[.float .f64 (wd g)] W fun e' w' => e' = .returned (.tuple #[.float .f64 (frw g), .int .i64 ((g.log2 : Int) - 1073)]) ∧ W = w' := by
  have hw : 0 < wd g := by
    rcases Nat.eq_zero_or_pos (wd g) with hz | hz
    · have := rv_wd hF.rep
      rw [hz, rv_zero] at this; omega
    · exact hz
  have := frexp_any (wd g) W hF.wd_lt (by rw [hF.rg]; omega) hF.fin
  rw [hF.sg, hF.rv] at this
  exact this

theorem fits_log2 {g : Nat} (h : Fits g) (h0 : 0 < g) : g.log2 < 3000 := by
  have h1 := h.lt
  have he := e0_eq
  rw [TOP_eq] at h1
  have := (Nat.log2_lt (show g ≠ 0 by omega)).2 h1
  omega
theorem wd_pos {n : Nat} (h : Rep n) (h0 : 0 < n) : 0 < wd n := by
  have := rv_wd h
  rcases Nat.eq_zero_or_pos (wd n) with hz | hz
  · rw [hz, rv_zero] at this; omega
  · exact hz

/-- what a round of the loop is told -/
structure MdIn (g Y k Lg LY : Nat) (below : Bool) : Prop where
  le : Y * 2 ^ k ≤ g
  pos : 0 < Y * 2 ^ k
  fits : Fits (g - Y * 2 ^ k)
  mod : (g - Y * 2 ^ k) % Y = g % Y
  k_eq : (k : Int) = (Lg : Int) - LY - (if below then 1 else 0)
  sub : floatBits .sub .f64 (wd g) (wd (Y * 2 ^ k)) = some (wd (g - Y * 2 ^ k))
  cmp : (FloatKind.f64.format.order (frw g) (frw Y) == some .lt) = below
  ldx : ∀ (z : Int) (W : World), z = (k : Int) → Calls Try.prog 50 #[.float .f64 (wd Y), .int .i64 z] W fun e' w' => e' = .returned (.float .f64 (wd (Y * 2 ^ k))) ∧ W = w'

theorem mdIn {g Y : Nat} (hg : Fits g) (hY : Fits Y) (h0 : 0 < Y) (hle : Y ≤ g) : MdIn g Y (shf g Y) g.log2 Y.log2 (decide (nrm g < nrm Y)) := by
  obtain ⟨s1, s2, s3⟩ := shf_spec hg.rep hY.rep h0 hle
  have hF : Fits (Y * 2 ^ shf g Y) := hg.le (hY.rep.mul_pow _) s1
  have hd := rep_diff hg.rep hF.rep (by omega)
  have hL := fits_log2 hg (by omega)
  have hk : shf g Y ≤ g.log2 := by unfold shf; omega
  refine ⟨s1, Nat.mul_pos h0 (Nat.two_pow_pos _), hg.le hd (Nat.sub_le _ _), mod_step s1, ?_, sub_wd hg hF s1 hd, frw_lt hg.rep hY.rep (by omega) h0, ?_⟩
  · unfold shf
    by_cases hc : nrm g < nrm Y
    · rw [if_pos hc] at s3 ⊢
      rw [if_pos (by simpa using hc)]; omega
    · rw [if_neg hc] at s3 ⊢
      rw [if_neg (by simpa using hc)]; omega
  · rintro z W rfl
    have := ldexp_any (wd Y) ((shf g Y : Nat) : Int) W hY.wd_lt (by omega) (by omega)
    rw [ld_up hF] at this
    exact this

set_option maxHeartbeats 1600000 in
/-- the loop of the division -/
theorem mod_big (x y X Y : Nat) (w : World) (hx : x < 2 ^ 64) (hy : y < 2 ^ 64) (hX : Fits X) (hY : Fits Y) (ex : rg x = wd X) (ey : rg y = wd Y) (hY0 : 0 < Y) (hX0 : 0 < X) :
    Calls Try.prog 38 #[.float .f64 x, .float .f64 y] w fun e w' => e = .returned (.float .f64 (mk (sg x) (wd (X % Y)))) ∧ w = w' := by
  have HI := Lib.hid (fun W : World => isInf_any x W hx)
  have HX := Lib.hid (fun W : World => isNaN_any x W)
  have HY := Lib.hid (fun W : World => isNaN_any y W)
  have HA := Lib.hid (fun W : World => mathAbs_any y W hy)
  have fx := wd_fin hX.rep hX.lt
  have fy := wd_fin hY.rep hY.lt
  rw [decide_eq_false (show ¬ rg x = INF by omega)] at HI
  rw [nan_false.2 (show rg x ≤ INF by omega)] at HX
  rw [nan_false.2 (show rg y ≤ INF by omega)] at HY
  rw [ey] at HA
  have px := wd_pos hX.rep hX0
  have py := wd_pos hY.rep hY0
  have b0 := ne_zero_of (y := y) (by omega)
  have b1 := lt_zero_sg (x := x) (by omega) (by omega)
  have HF := Lib.hid (fun W : World => frexp_wd hY hY0 W)
  have hng := neg_run2
  have hst : Hid (sg x = true → Op.negFloat .f64 x = wd X) := fun h => by
    rw [neg_bits x hx, ex, h]; rfl
  have hsx : Hid (sg x = false → x = wd X) := fun h => by
    rw [← mk_of hx, h, ex]; rfl
  have HM := Lib.hid (fun (g : Nat) (hg : Fits g) (hle : Y ≤ g) => mdIn hg hY hY0 hle)
  have hlY := fits_log2 hY hY0
  clear fx fy px py hy ey hx ex
  generalize Y.log2 = LY at *
  cases hsg : sg x
  all_goals
    rw [hsg] at b1 hst hsx
    go_enter Try.func38, Try.ntmps38
    go_wp2_with (first | (go_at_call 48; ((with_reducible refine (HA.out _).mono ?_)); rintro e w' ⟨rfl, rfl⟩) | (go_at_call 49; ((with_reducible refine (HF.out _).mono ?_)); rintro e w' ⟨rfl, rfl⟩) | (go_at_call 45; ((with_reducible refine (HI.out _).mono ?_)); rintro e w' ⟨rfl, rfl⟩) | (go_at_call 46; first | (((with_reducible refine (HX.out _).mono ?_)); rintro e w' ⟨rfl, rfl⟩) | (((with_reducible refine (HY.out _).mono ?_)); rintro e w' ⟨rfl, rfl⟩)))
    go_loopg [7] X (fun g r wr => ∃ z : Nat, r = .float .f64 z ∧ Hid (z = wd g) ∧ Fits g ∧ Hid (g % Y = X % Y) ∧ wr = w)
    case atStart => exact ⟨_, rfl, (by first | exact hsx.out rfl | exact hsx.out trivial | exact hst.out rfl | exact hst.out trivial), hX, rfl, rfl⟩
    case round =>
      obtain ⟨z, rfl, hz, hFg, hmod, rfl⟩ := hrel
      obtain rfl : z = wd gk := hz.out
      clear hz HA HF HI HX HY hsx hst
      have bge := ge_wd hFg hY
      by_cases hle : Y ≤ gk
      · rw [decide_eq_true hle] at bge
        have HG := Lib.hid (fun W : World => frexp_wd hFg (by omega) W)
        have hIn := HM.out gk hFg hle
        have hlg := fits_log2 hFg (by omega)
        generalize shf gk Y = k at *
        generalize gk.log2 = Lg at *
        have hsub := run_g hIn.sub
        have hcmp := hIn.cmp
        have hm2 : Hid ((gk - Y * 2 ^ k) % Y = X % Y) := hIn.mod.trans hmod.out
        have hke := Lib.hid hIn.k_eq
        have HL := Lib.hid hIn.ldx
        have hF2 := hIn.fits
        have hdec : Hid (gk - Y * 2 ^ k < gk) := by have h1 := hIn.pos; have h2 := hIn.le; show _ < _; omega
        clear hIn hmod HM hX
        generalize wd (Y * 2 ^ k) = yk at *
        generalize wd Y = yw at *
        cases hb : decide (nrm gk < nrm Y)
        all_goals
          rw [hb] at hcmp hke
          clear hb
          go_wp2_with (first | (go_at_call 49; ((with_reducible refine (HG.out _).mono ?_)); rintro e w' ⟨rfl, rfl⟩) | (go_at_call 50; ((with_reducible refine (HL.out _ _ (by have := hke.out; simp at this; omega)).mono ?_)); rintro e w' ⟨rfl, rfl⟩))
          go_roundg (gk - Y * 2 ^ k)
          case measure => exact hdec.out
          case rel => exact ⟨_, rfl, rfl, hF2, hm2.out, rfl⟩
      · rw [decide_eq_false hle] at bge
        have hfin : Hid (gk = X % Y) := by
          have := hmod.out
          rw [Nat.mod_eq_of_lt (show gk < Y by omega)] at this
          exact this
        have hnw := neg_wd hFg
        clear hmod HM hX
        go_wp2
        go_ret
        exact ⟨ret_float (by rw [← hfin.out]; try (first | rfl | exact hnw)), rfl⟩

theorem mod_inner (x y : Nat) (w : World) (hx : x < 2 ^ 64) (hy : y < 2 ^ 64) :
    Calls Try.prog 38 #[.float .f64 x, .float .f64 y] w fun e w' => e = .returned (.float .f64 (modW x y)) ∧ w = w' := by
  by_cases h : INF ≤ rg x ∨ rg y = 0 ∨ INF < rg y
  · rw [modW_nan h]; exact mod_nan x y w hx h
  rcases Nat.lt_or_ge (rg x) (rg y) with hlt | hge
  · rw [modW_small hx hlt (by omega)]; exact mod_small x y w hx hy hlt (by omega)
  · rw [modW_num (by omega) (by omega) (by omega)]
    exact mod_big x y _ _ w hx hy (fits_rv (by omega)) (fits_rv (by omega)) (wd_rv _).symm (wd_rv _).symm (rv_pos (by omega)) (rv_pos (by omega))

set_option maxHeartbeats 400000 in
theorem mod_any (x y : Nat) (w : World) (hx : x < 2 ^ 64) (hy : y < 2 ^ 64) :
    Calls Try.prog 32 #[.float .f64 x, .float .f64 y] w fun e w' => e = .returned (.float .f64 (modW x y)) ∧ w = w' := by
  have H := Lib.hid (fun W : World => mod_inner x y W hx hy)
  clear hx hy
  go_enter Try.func32, Try.ntmps32
  go_wp2_with (go_at_call 38; ((with_reducible refine (H.out _).mono ?_)); rintro e w' ⟨rfl, rfl⟩)
  go_ret
  exact ⟨rfl, rfl⟩
end Go.Proofs.Ytelhgahbhbinoaa
