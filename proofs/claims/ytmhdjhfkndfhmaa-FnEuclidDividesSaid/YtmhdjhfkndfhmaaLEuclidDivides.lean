/-
  The walk of laws.FnEuclidDivides: it returns true, for all numbers.
-/
import Derived.Test.YtmhdjhfkndfhmaaEnd
namespace Go.Proofs.Ytmhdjhfkndfhmaa.LEuclidDivides
open Go.RowKit Flt

theorem mod_zero {z u : Nat} (fz : rg z < INF) (fu : rg u < INF) (u0 : rg u ≠ 0) (h : rv (rg u) ∣ rv (rg z)) : rg (modW z u) = 0 := by
  have hF := modW_fits (x := z) (y := u) fz u0
  rw [modW_num fz u0 (Nat.le_of_lt fu), rg_mkwd _ hF.rep hF.lt, Nat.mod_eq_zero_of_dvd h, wd_zero]
theorem rem_zero {z u : Nat} (fz : rg z < INF) (fu : rg u < INF) (u0 : rg u ≠ 0) (h : rv (rg u) ∣ rv (rg z)) : rg (remW z u) = 0 := by
  have hF := remW_fits (x := z) (y := u) fz u0
  have hp := rv_pos (r := rg u) (by omega)
  have hn : nr (rv (rg z)) (rv (rg u)) = 0 := by
    have h1 := remN_dvd h (Nat.dvd_refl (rv (rg u)))
    have h2 := remN_le (rv (rg z)) (rv (rg u)) hp
    rcases Nat.eq_zero_or_pos (nr (rv (rg z)) (rv (rg u))) with h3 | h3
    · exact h3
    · have := Nat.le_of_dvd h3 h1; omega
  rw [remW_num fz u0 fu, rg_mkwd _ hF.rep hF.lt, hn, wd_zero]
theorem ne_zero_false {z : Nat} (h : rg z = 0) : (FloatKind.f64.format.order z 0 != some .eq) = false := by
  have := eq_zero_of h
  show (!(FloatKind.f64.format.order z 0 == some .eq)) = false
  rw [this]; rfl
theorem all_dvd {x y : Nat} (hxl : x < 2 ^ 64) (hyl : y < 2 ^ 64) (hx : rg x < INF) (hy : rg y < INF) : ∀ z ∈ eucW x y, Nat.gcd (fv x).natAbs (fv y).natAbs ∣ rv (rg z) := by
  intro z hz
  have h := euc_mg hxl hyl hx hy
  have hm : mg (vl z) ∈ (eucW x y).map (fun z => mg (vl z)) := List.mem_map.2 ⟨z, hz, rfl⟩
  rw [mg_vl (euc_fin hx hy z hz), h] at hm
  rcases List.mem_cons.1 hm with e | hm
  · rw [e]; exact Nat.gcd_dvd_left _ _
  rcases List.mem_cons.1 hm with e | hm
  · rw [e]; exact Nat.gcd_dvd_right _ _
  · exact cE_dvd _ _ (Nat.gcd_dvd_left _ _) (Nat.gcd_dvd_right _ _) _ hm

set_option maxRecDepth 100000 in
set_option maxHeartbeats 3200000 in
theorem walk (w : World) (x : Nat) (hx : x < 2 ^ 64) (y : Nat) (hy : y < 2 ^ 64) :
    Calls Try.prog 5 #[.float .f64 x, .float .f64 y] w fun e w' => e = .returned (.bool true) ∧ Below w.heap.size w w' := by
  have HE := Lib.hid (fun W : World => euclid_any x y W hx hy)
  obtain ⟨l1, l2⟩ : 2 ≤ (eucW x y).length ∧ (eucW x y).length ≤ 200 := by
    have h := chw_len modW 198 x y
    have e : (eucW x y).length = (chw modW 198 x y).length + 2 := rfl
    omega
  have EE := Lib.hid (fun (h1 : rg x < INF) (h2 : rg y < INF) (h3 : rg y ≠ 0) => euc_ends hx hy h1 h2 h3)
  have ED := Lib.hid (fun (h1 : rg x < INF) (h2 : rg y < INF) => all_dvd hx hy h1 h2)
  generalize eucW x y = L at *
  generalize Nat.gcd (fv x).natAbs (fv y).natAbs = g at *
  clear hx hy
  go_enter Try.func5, Try.ntmps5
  go_wp2_with fail
  ((with_reducible refine (HE.out _).mono ?_); rintro e w1 ⟨A1, c1, rfl, _, hown1, hbel1⟩)
  have hr := Rd.of_own hown1
  rw [fl_len]
  clear hown1
  generalize hLn : L.length = n at *
  have HN := Lib.hid hLn
  rcases Nat.lt_or_ge (rg x) INF with hfx | hfx
  · have HX := Lib.hid (fun W : World => specFinite_yes x W hfx)
    rcases Nat.lt_or_ge (rg y) INF with hfy | hfy
    · have HY := Lib.hid (fun W : World => specFinite_yes y W hfy)
      by_cases h0 : rg y = 0
      · have b0 := eq_zero_of h0
        clear hfx hfy EE ED h0 hLn
        go_wp2_with (go_at_call 14; first | (((with_reducible refine (HX.out _).mono ?_)); rintro e w' ⟨rfl, rfl⟩) | (((with_reducible refine (HY.out _).mono ?_)); rintro e w' ⟨rfl, rfl⟩))
        go_ret
        exact ⟨by simp <;> omega, hbel1⟩
      · have b0 := ne_zero_of h0
        have E1 := EE.out hfx hfy h0
        have D1 := ED.out hfx hfy
        have HE1 := Lib.hid (ends_any L A1 c1 n _ w1 E1 hLn hr)
        have HL1 := Lib.hid (last_any L A1 c1 n _ w1 ⟨l1, l2⟩ hLn hr)
        have hall : Hid (∀ k, k < n → L.getD k 0 < 2 ^ 64 ∧ rg (modW (L.getD k 0) (lastW L)) = 0 ∧ rg (remW (L.getD k 0) (lastW L)) = 0) := by
          intro k hk
          have hm := getD_mem L k 0 (by omega)
          have hv : rv (rg (lastW L)) = g := E1.val
          have hd := D1 _ hm
          rw [← hv] at hd
          exact ⟨E1.word _ hm, mod_zero (E1.fin _ hm) (E1.fin _ E1.last_mem) E1.last_ne hd, rem_zero (E1.fin _ hm) (E1.fin _ E1.last_mem) E1.last_ne hd⟩
        have hul := E1.word _ E1.last_mem
        clear hfx hfy EE ED h0 E1 D1 hLn
        generalize lastW L = u at *
        go_wp2_with (first | (go_at_call 14; first | (((with_reducible refine (HX.out _).mono ?_)); rintro e w' ⟨rfl, rfl⟩) | (((with_reducible refine (HY.out _).mono ?_)); rintro e w' ⟨rfl, rfl⟩)) | (go_at_call 19; (((with_reducible refine HE1.out.mono ?_)); rintro e w' ⟨rfl, rfl⟩)))
        go_loopw [7, 31] (fun _ i wr => ∃ k : Nat, k ≤ n ∧ i = .int .i64 k ∧ w1 = wr) (fun _ i _ => n - (intOf i).toNat)
        case atStart => exact ⟨0, Nat.zero_le _, rfl, rfl⟩
        case round =>
          obtain ⟨k, hk, rfl, rfl⟩ := hrel
          by_cases hlt : k < n
          · obtain ⟨ad1, e1, _, ca⟩ := hr.fl (k := k) (by rw [HN.out]; exact hlt)
            cases e1
            obtain ⟨z1, z2, z3⟩ := hall.out k hlt
            have HM := Lib.hid (fun W : World => impMod_any (L.getD k 0) u W z1 hul)
            have HR := Lib.hid (fun W : World => impRem_any (L.getD k 0) u W z1 hul)
            have t1 := ne_zero_false z2
            have t2 := ne_zero_false z3
            clear z1 z2 z3
            generalize modW (L.getD k 0) u = m1 at *
            generalize remW (L.getD k 0) u = m2 at *
            generalize L.getD k 0 = z at *
            go_wp2_with (first | (go_at_call 21; (((with_reducible refine HL1.out.mono ?_)); rintro e w' ⟨rfl, rfl⟩)) | (go_at_call 20; (((with_reducible refine (HM.out _).mono ?_)); rintro e w' ⟨rfl, rfl⟩)) | (go_at_call 22; (((with_reducible refine (HR.out _).mono ?_)); rintro e w' ⟨rfl, rfl⟩)))
            go_roundw
            case rel => exact ⟨k + 1, by omega, by go_num, by trivial⟩
            case measure => simp [intOf]; omega
          · clear hall
            go_wp2
            go_ret
            exact ⟨rfl, hbel1⟩
    · have HY := Lib.hid (fun W : World => specFinite_no y W hfy)
      clear hfx hfy EE ED hLn
      go_wp2_with (go_at_call 14; first | (((with_reducible refine (HX.out _).mono ?_)); rintro e w' ⟨rfl, rfl⟩) | (((with_reducible refine (HY.out _).mono ?_)); rintro e w' ⟨rfl, hq⟩))
      go_ret
      exact ⟨by simp <;> omega, hbel1.trans (hq.below _)⟩
  · have HX := Lib.hid (fun W : World => specFinite_no x W hfx)
    clear hfx EE ED hLn
    go_wp2_with (go_at_call 14; ((with_reducible refine (HX.out _).mono ?_)); rintro e w' ⟨rfl, hq⟩)
    go_ret
    exact ⟨by simp <;> omega, hbel1.trans (hq.below _)⟩
end Go.Proofs.Ytmhdjhfkndfhmaa.LEuclidDivides
