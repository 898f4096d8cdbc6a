/-
  The walk of laws.FnEuclidFalls: it returns true, for all numbers.
-/
import Derived.Test.YtelhgahbhbinoaaEuc
import Derived.Test.YtelhgahbhbinoaaSpcB
import Derived.Test.YtelhgahbhbinoaaSpcC
import Derived.Test.YtelhgahbhbinoaaRow
namespace Go.Proofs.Ytelhgahbhbinoaa.LEuclidFalls
open Go.RowKit Flt

theorem euc_len (x y : Nat) : 2 ≤ (eucW x y).length ∧ (eucW x y).length ≤ 200 := by
  have h := chw_len modW 198 x y
  have e : (eucW x y).length = (chw modW 198 x y).length + 2 := rfl
  omega

/-- what the loop meets at a place -/
structure Fall (q p k : Nat) : Prop where
  wq : rg q < INF
  wp : rg p < INF
  wk : rg k < INF
  p0 : rg p ≠ 0
  lt : rg k < rg p
  sign : sg k = sg q
  zero : rg q = 0 → rg k = 0

theorem falls {x y : Nat} (hx : rg x < INF) (hy : rg y < INF) {j : Nat} (h : j + 2 < (eucW x y).length) : Fall ((eucW x y).getD j 0) ((eucW x y).getD (j + 1) 0) ((eucW x y).getD (j + 2) 0) := by
  obtain ⟨h1, h2⟩ := chw_get modW 198 x y j h
  have hall := chw_fin (f := modW) (fun a b ha _ hs => (modW_fin ha hs).1) 198 x y hx hy
  have w1 := hall _ (getD_mem (eucW x y) j 0 (by omega))
  have w2 := hall _ (getD_mem (eucW x y) (j + 1) 0 (by omega))
  have e : (eucW x y).getD (j + 2) 0 = modW ((eucW x y).getD j 0) ((eucW x y).getD (j + 1) 0) := h2
  have h1' : stopw ((eucW x y).getD (j + 1) 0) = false := h1
  obtain ⟨m1, m2, m3⟩ := modW_fin w1 h1'
  have m4 : rg ((eucW x y).getD j 0) = 0 → rg ((eucW x y).getD (j + 2) 0) = 0 := by
    intro h0
    obtain ⟨s0, s1⟩ := stopw_false h1'
    have hF := modW_fits (x := (eucW x y).getD j 0) (y := (eucW x y).getD (j + 1) 0) w1 s0
    rw [e, modW_num w1 s0 s1, rg_mkwd _ hF.rep hF.lt, h0, rv_zero, Nat.zero_mod, wd_zero]
  rw [← e] at m1 m2 m3
  exact ⟨w1, w2, m1, (stopw_false h1').1, m2, m3, m4⟩

theorem eucW_words {x y : Nat} (hx : x < 2 ^ 64) (hy : y < 2 ^ 64) : ∀ z ∈ eucW x y, z < 2 ^ 64 := by
  intro z hz
  rcases List.mem_cons.1 hz with rfl | hz
  · exact hx
  rcases List.mem_cons.1 hz with rfl | hz
  · exact hy
  exact chw_words modW_w 198 x y hx hy z hz

set_option maxRecDepth 100000 in
set_option maxHeartbeats 3200000 in
theorem walk (w : World) (x : Nat) (hx : x < 2 ^ 64) (y : Nat) (hy : y < 2 ^ 64) :
    Calls Try.prog 6 #[.float .f64 x, .float .f64 y] w fun e w' => e = .returned (.bool true) ∧ Below w.heap.size w w' := by
  obtain ⟨l1, l2⟩ := euc_len x y
  have HE := Lib.hid (euclid_any x y w hx hy)
  have hW := Lib.hid (eucW_words hx hy)
  have hFall := Lib.hid (fun (hfx : rg x < INF) (hfy : rg y < INF) (j : Nat) (h : j + 2 < (eucW x y).length) => falls hfx hfy h)
  generalize eucW x y = L at *
  go_enter Try.func6, Try.ntmps6
  go_wp2_with fail
  ((with_reducible refine HE.out.mono ?_); rintro e w1 ⟨A, c, rfl, hc, hown, hbel⟩)
  have hr := Rd.of_own hown
  rw [fl_len] at hc ⊢
  clear hown HE hc
  generalize hN : L.length = N at *
  have HN := Lib.hid hN
  clear hN
  rcases Nat.lt_or_ge (rg x) INF with hfx | hfx
  · have HX := Lib.hid (fun W : World => specFinite_yes x W hfx)
    rcases Nat.lt_or_ge (rg y) INF with hfy | hfy
    · have HY := Lib.hid (fun W : World => specFinite_yes y W hfy)
      have hF := Lib.hid (hFall.out hfx hfy)
      clear hfx hfy hFall
      go_wp2_with (go_at_call 23; first | (((with_reducible refine (HX.out _).mono ?_)); rintro e w' ⟨rfl, rfl⟩) | (((with_reducible refine (HY.out _).mono ?_)); rintro e w' ⟨rfl, rfl⟩))
      go_loopw [6] (fun i wr => ∃ k : Nat, 2 ≤ k ∧ k ≤ N ∧ i = .int .i64 k ∧ Qt w1 wr) (fun i _ => N - (intOf i).toNat)
      case atStart => exact ⟨2, by omega, l1, rfl, Qt.refl _⟩
      case round =>
        obtain ⟨k, hk1, hk, rfl, hq⟩ := hrel
        by_cases hlt : k < N
        · obtain ⟨j, hj⟩ : ∃ j, j + 2 = k := ⟨k - 2, by omega⟩
          obtain ⟨ad, e1, _, c1⟩ := (hr.qt hq).fl (k := k) (by rw [HN.out]; exact hlt)
          obtain ⟨ad2, e2, _, c2⟩ := (hr.qt hq).fl (k := j + 1) (by rw [HN.out]; omega)
          obtain ⟨ad3, e3, _, c3⟩ := (hr.qt hq).fl (k := j) (by rw [HN.out]; omega)
          cases e1; cases e2; cases e3
          have hf := hF.out j (by omega)
          rw [hj] at hf
          have m1 := hW.out _ (getD_mem L k 0 (by rw [HN.out]; omega))
          have m2 := hW.out _ (getD_mem L (j + 1) 0 (by rw [HN.out]; omega))
          generalize hp : j + 1 = p at *
          have hpN : p < N := by omega
          have hjN : j < N := by omega
          generalize L.getD k 0 = ek at *
          generalize L.getD p 0 = ep at *
          generalize L.getD j 0 = eq at *
          have hz := Lib.hid hf.zero
          obtain ⟨f1, f2, f3, f4, f5, f6, _⟩ := hf
          have HA := Lib.hid (fun W : World => specAbs_any ek W m1 (nan_false.2 (by omega)))
          have HB := Lib.hid (fun W : World => specAbs_any ep W m2 (nan_false.2 (by omega)))
          have hge : (FloatKind.f64.format.order (absW ek) (absW ep) == some .gt || FloatKind.f64.format.order (absW ek) (absW ep) == some .eq) = false := by
            have e2 := abs_rg m2 f4
            by_cases h0 : rg ek = 0
            · have hk0 : key ek = 0 := by have := key_natAbs ek; omega
              rw [e2, abs_zero hk0, c_ge (by omega) (by rw [rg_rg]; omega), key_rg, hk0, decide_eq_false (by omega)]
            · rw [e2, abs_rg m1 h0, c_ge (by rw [rg_rg]; omega) (by rw [rg_rg]; omega), key_rg, key_rg, decide_eq_false (by omega)]
          generalize absW ek = aek at *
          generalize absW ep = aep at *
          have hw1 : IntKind.i64.wrap ((k : Int) - 1) = (p : Int) := by rw [IntWalk.i64_in _ (by omega)]; omega
          have hw2 : IntKind.i64.wrap ((k : Int) - 2) = (j : Int) := by rw [IntWalk.i64_in _ (by omega)]; omega
          have hj' := Lib.hid hj
          have hp' := Lib.hid hp
          by_cases h0 : rg ek = 0
          · have hne : (FloatKind.f64.format.order ek 0 != some .eq) = false := by
              have := eq_zero_of h0
              show (!(FloatKind.f64.format.order ek 0 == some .eq)) = false
              rw [this]; rfl
            clear f1 f2 f3 f4 f5 f6 hj hp h0 m1 m2 hz
            go_wp2
            go_quiet ((go_at_call 17; first | exact quiet_w (HA.out _) | exact quiet_w (HB.out _)))
            clear hw1 hw2
            go_wp2
            go_roundw
            case rel => exact ⟨k + 1, by omega, by omega, by go_num, hq.drewN _⟩
            case measure => simp [intOf]; omega
          · have hne : (FloatKind.f64.format.order ek 0 != some .eq) = true := by
              have := ne_zero_of h0
              show (!(FloatKind.f64.format.order ek 0 == some .eq)) = true
              rw [this]; rfl
            have b1 := lt_zero_sg h0 (show rg ek ≤ INF by omega)
            have hq0 : ¬ (rg eq = 0 ∧ True) := fun h => by
              have := hz.out h.1; omega
            have b2 := lt_zero_sg (x := eq) (fun h => hq0 ⟨h, trivial⟩) (show rg eq ≤ INF by omega)
            rw [f6] at b1
            generalize sg eq = s at *
            clear f1 f2 f3 f4 f5 f6 hj hp h0 m1 m2 hq0 hz
            cases s
            all_goals
              go_wp2
              go_quiet ((go_at_call 17; first | exact quiet_w (HA.out _) | exact quiet_w (HB.out _)))
              clear hw1 hw2
              go_wp2
              go_roundw
              case rel => exact ⟨k + 1, by omega, by omega, by go_num, hq.drewN _⟩
              case measure => simp [intOf]; omega
        · clear hF
          go_wp2
          go_ret
          exact ⟨by simp; omega, hbel.trans (hq.below _)⟩
    · have HY := Lib.hid (fun W : World => specFinite_no y W hfy)
      clear hfx hfy hFall
      go_wp2_with (go_at_call 23; first | (((with_reducible refine (HX.out _).mono ?_)); rintro e w' ⟨rfl, rfl⟩) | (((with_reducible refine (HY.out _).mono ?_)); rintro e w' ⟨rfl, hq⟩))
      go_ret
      exact ⟨by simp; omega, hbel.trans (hq.below _)⟩
  · have HX := Lib.hid (fun W : World => specFinite_no x W hfx)
    clear hfx hFall
    go_wp2_with (go_at_call 23; ((with_reducible refine (HX.out _).mono ?_)); rintro e w' ⟨rfl, hq⟩)
    go_ret
    exact ⟨by simp; omega, hbel.trans (hq.below _)⟩
end Go.Proofs.Ytelhgahbhbinoaa.LEuclidFalls
