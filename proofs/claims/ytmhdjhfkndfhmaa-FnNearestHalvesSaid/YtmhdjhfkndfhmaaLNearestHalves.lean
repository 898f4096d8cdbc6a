/-
  The walk of laws.FnNearestHalves: it returns true, for all numbers.
-/
import Derived.Test.YtmhdjhfkndfhmaaNea
import Derived.Test.YtmhdjhfkndfhmaaSpcB
import Derived.Test.YtmhdjhfkndfhmaaSpcC
import Derived.Test.YtmhdjhfkndfhmaaRow
namespace Go.Proofs.Ytmhdjhfkndfhmaa.LNearestHalves
open Go.RowKit Flt

theorem nea_len (x y : Nat) : 2 ≤ (neaW x y).length ∧ (neaW x y).length ≤ 200 := by
  have h := chw_len remW 198 x y
  have e : (neaW x y).length = (chw remW 198 x y).length + 2 := rfl
  omega

/-- what the loop meets at a place -/
structure Half (p k : Nat) : Prop where
  wp : rg p < INF
  wk : rg k < INF
  p0 : rg p ≠ 0
  half : 2 * rv (rg k) ≤ rv (rg p)

theorem remW_fin {a b : Nat} (ha : rg a < INF) (hb : rg b < INF) (hs : stopw b = false) : rg (remW a b) < INF ∧ rv (rg (remW a b)) = nr (rv (rg a)) (rv (rg b)) := by
  obtain ⟨h0, _⟩ := stopw_false hs
  have hF := remW_fits (x := a) (y := b) ha h0
  rw [remW_num ha h0 hb]
  refine ⟨fin_mkwd _ hF.rep hF.lt, ?_⟩
  rw [rg_mkwd _ hF.rep hF.lt]
  exact rv_wd hF.rep
theorem halves {x y : Nat} (hx : rg x < INF) (hy : rg y < INF) {j : Nat} (h : j + 2 < (neaW x y).length) : Half ((neaW x y).getD (j + 1) 0) ((neaW x y).getD (j + 2) 0) := by
  obtain ⟨h1, h2⟩ := chw_get remW 198 x y j h
  have hall := chw_fin (f := remW) (fun a b ha hb hs => (remW_fin ha hb hs).1) 198 x y hx hy
  have w1 := hall _ (getD_mem (neaW x y) j 0 (by omega))
  have w2 := hall _ (getD_mem (neaW x y) (j + 1) 0 (by omega))
  have e : (neaW x y).getD (j + 2) 0 = remW ((neaW x y).getD j 0) ((neaW x y).getD (j + 1) 0) := h2
  have h1' : stopw ((neaW x y).getD (j + 1) 0) = false := h1
  obtain ⟨m1, m2⟩ := remW_fin w1 w2 h1'
  obtain ⟨s0, _⟩ := stopw_false h1'
  rw [← e] at m1 m2
  exact ⟨w2, m1, s0, by rw [m2]; exact remN_le _ _ (rv_pos (by omega))⟩

theorem neaW_words {x y : Nat} (hx : x < 2 ^ 64) (hy : y < 2 ^ 64) : ∀ z ∈ neaW x y, z < 2 ^ 64 := by
  intro z hz
  rcases List.mem_cons.1 hz with rfl | hz
  · exact hx
  rcases List.mem_cons.1 hz with rfl | hz
  · exact hy
  exact chw_words remW_w 198 x y hx hy z hz

/-- the absolute value of a finite word -/
theorem abs_fin {x : Nat} (hx : x < 2 ^ 64) (hf : rg x < INF) : rg (absW x) < INF ∧ fv (absW x) = (rv (rg x) : Int) := by
  by_cases h0 : rg x = 0
  · have hk0 : key x = 0 := by have := key_natAbs x; omega
    rw [abs_zero hk0]
    exact ⟨hf, by rw [(fv_zero_iff x).2 h0, h0, rv_zero]; rfl⟩
  · rw [abs_rg hx h0, rg_rg]
    refine ⟨hf, ?_⟩
    unfold fv
    rw [rg_rg, show sg (rg x) = false from (by unfold sg rg; simp), if_neg (by decide)]

/-- the difference is not less than the smaller one -/
theorem sub_half {p k : Nat} (hp : rg p < INF) (hk : rg k < INF) (h0 : 0 ≤ fv k) (h : 2 * fv k ≤ fv p) :
    ∃ r, floatBits .sub .f64 p k = some r ∧ (FloatKind.f64.format.order k r == some .gt) = false := by
  have hI := INF_val
  refine ⟨_, sub_fin hp hk, ?_⟩
  have hkn := fv_natAbs k
  have hpn := fv_natAbs p
  obtain ⟨t, ht⟩ : ∃ t : Nat, fv p - fv k = (t : Int) := ⟨(fv p - fv k).toNat, by omega⟩
  rw [ht]
  have hr1 : ru t 0 ≤ rg p := by have := ru_mono (k := 0) (show t ≤ rv (rg p) by omega); rwa [ru_exact0] at this
  have hr2 : rg k ≤ ru t 0 := by have := ru_mono (k := 0) (show rv (rg k) ≤ t by omega); rwa [ru_exact0] at this
  generalize (sg p && !sg k) = s
  have e1 : rg (rs s (t : Int) 0) = ru t 0 := by rw [rg_rs, Int.natAbs_natCast, Nat.min_eq_left (by omega)]
  have e2 := sg_rs s (t : Int) 0
  generalize rs s (t : Int) 0 = r at *
  have kk := key_natAbs k
  have kr := key_natAbs r
  have hk0 : ¬ key k < 0 := by
    have h00 := fv_lt_iff k 0
    rw [key_zero, (fv_zero_iff 0).2 rfl] at h00
    exact fun h => by have := h00.2 h; omega
  have hr0 : 0 ≤ key r := by
    by_cases h0 : t = 0
    · rw [h0, ru_zero] at e1; omega
    · rw [if_neg (by omega), decide_eq_false (by omega)] at e2
      unfold key
      rw [e2, if_neg (by decide)]; omega
  rw [c_gt (by omega) (by omega), decide_eq_false (by omega)]

set_option maxRecDepth 100000 in
set_option maxHeartbeats 3200000 in
theorem walk (w : World) (x : Nat) (hx : x < 2 ^ 64) (y : Nat) (hy : y < 2 ^ 64) :
    Calls Try.prog 3 #[.float .f64 x, .float .f64 y] w fun e w' => e = .returned (.bool true) ∧ Below w.heap.size w w' := by
  obtain ⟨l1, l2⟩ := nea_len x y
  have HE := Lib.hid (nearest_any x y w hx hy)
  have hW := Lib.hid (neaW_words hx hy)
  have hFall := Lib.hid (fun (hfx : rg x < INF) (hfy : rg y < INF) (j : Nat) (h : j + 2 < (neaW x y).length) => halves hfx hfy h)
  generalize neaW x y = L at *
  go_enter Try.func3, Try.ntmps3
  go_wp2_with fail
  ((with_reducible refine HE.out.mono ?_); rintro e w1 ⟨A, c, rfl, hc, hown, hbel⟩)
  have hr := Rd.of_own hown
  rw [fl_len] at hc ⊢
  clear hown HE hc
  generalize hN : L.length = N at *
  have HN := Lib.hid hN
  clear hN
  rcases Nat.lt_or_ge (rg x) INF with hfx | hfx
  · have HX := Lib.hid (fun W : World => specFinite_yes x W hfx)
    rcases Nat.lt_or_ge (rg y) INF with hfy | hfy
    · have HY := Lib.hid (fun W : World => specFinite_yes y W hfy)
      have hF := Lib.hid (hFall.out hfx hfy)
      clear hfx hfy hFall
      go_wp2_with (go_at_call 14; first | (((with_reducible refine (HX.out _).mono ?_)); rintro e w' ⟨rfl, rfl⟩) | (((with_reducible refine (HY.out _).mono ?_)); rintro e w' ⟨rfl, rfl⟩))
      go_loopw [6] (fun i wr => ∃ k : Nat, 2 ≤ k ∧ k ≤ N ∧ i = .int .i64 k ∧ Qt w1 wr) (fun i _ => N - (intOf i).toNat)
      case atStart => exact ⟨2, by omega, l1, rfl, Qt.refl _⟩
      case round =>
        obtain ⟨k, hk1, hk, rfl, hq⟩ := hrel
        by_cases hlt : k < N
        · obtain ⟨j, hj⟩ : ∃ j, j + 2 = k := ⟨k - 2, by omega⟩
          obtain ⟨ad, e1, _, c1⟩ := (hr.qt hq).fl (k := k) (by rw [HN.out]; exact hlt)
          obtain ⟨ad2, e2, _, c2⟩ := (hr.qt hq).fl (k := j + 1) (by rw [HN.out]; omega)
          cases e1; cases e2
          have hf := hF.out j (by omega)
          rw [hj] at hf
          have m1 := hW.out _ (getD_mem L k 0 (by rw [HN.out]; omega))
          have m2 := hW.out _ (getD_mem L (j + 1) 0 (by rw [HN.out]; omega))
          generalize hp : j + 1 = p at *
          have hpN : p < N := by omega
          generalize L.getD k 0 = ek at *
          generalize L.getD p 0 = ep at *
          obtain ⟨f2, f3, f4, f5⟩ := hf
          have HA := Lib.hid (fun W : World => specAbs_any ek W m1 (nan_false.2 (by omega)))
          have HB := Lib.hid (fun W : World => specAbs_any ep W m2 (nan_false.2 (by omega)))
          obtain ⟨a1, a2⟩ := abs_fin m1 f3
          obtain ⟨a3, a4⟩ := abs_fin m2 f2
          obtain ⟨r, hr1, hgt⟩ := sub_half a3 a1 (by omega) (by omega)
          have hrun := run_f hr1
          clear a1 a2 a3 a4 hr1
          generalize absW ek = aek at *
          generalize absW ep = aep at *
          have hw1 : IntKind.i64.wrap ((k : Int) - 1) = (p : Int) := by rw [IntWalk.i64_in _ (by omega)]; omega
          clear f2 f3 f4 f5 hj hp m1 m2
          go_wp2
          go_quiet ((go_at_call 15; first | exact quiet_w (HA.out _) | exact quiet_w (HB.out _)))
          clear hw1
          go_wp2
          go_roundw
          case rel => exact ⟨k + 1, by omega, by omega, by go_num, hq.drewN _⟩
          case measure => simp [intOf]; omega
        · clear hF
          go_wp2
          go_ret
          exact ⟨by simp; omega, hbel.trans (hq.below _)⟩
    · have HY := Lib.hid (fun W : World => specFinite_no y W hfy)
      clear hfx hfy hFall
      go_wp2_with (go_at_call 14; first | (((with_reducible refine (HX.out _).mono ?_)); rintro e w' ⟨rfl, rfl⟩) | (((with_reducible refine (HY.out _).mono ?_)); rintro e w' ⟨rfl, hq⟩))
      go_ret
      exact ⟨by simp; omega, hbel.trans (hq.below _)⟩
  · have HX := Lib.hid (fun W : World => specFinite_no x W hfx)
    clear hfx hFall
    go_wp2_with (go_at_call 14; ((with_reducible refine (HX.out _).mono ?_)); rintro e w' ⟨rfl, hq⟩)
    go_ret
    exact ⟨by simp; omega, hbel.trans (hq.below _)⟩
end Go.Proofs.Ytmhdjhfkndfhmaa.LNearestHalves
