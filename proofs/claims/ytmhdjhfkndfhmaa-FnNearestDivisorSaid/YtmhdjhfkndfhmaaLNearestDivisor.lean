/-
  The walk of laws.FnNearestDivisor: it returns true, for all numbers.
-/
import Derived.Test.YtmhdjhfkndfhmaaEnd
namespace Go.Proofs.Ytmhdjhfkndfhmaa.LNearestDivisor
open Go.RowKit Flt

theorem abs_eq {a b g : Nat} (ha : a < 2 ^ 64) (hb : b < 2 ^ 64) (fa : rg a < INF) (fb : rg b < INF) (va : rv (rg a) = g) (vb : rv (rg b) = g) : (FloatKind.f64.format.order (absW a) (absW b) == some .eq) = true := by
  obtain ⟨a1, a2⟩ := abs_fin ha fa
  obtain ⟨b1, b2⟩ := abs_fin hb fb
  rw [c_eq (Nat.le_of_lt a1) (Nat.le_of_lt b1), decide_eq_true ((fv_eq_iff _ _).1 (by rw [a2, b2, va, vb]))]

theorem two (f : Nat → Nat → Nat) (x y : Nat) : 2 ≤ (x :: y :: chw f 198 x y).length ∧ (x :: y :: chw f 198 x y).length ≤ 200 := by
  have h := chw_len f 198 x y
  simp only [List.length_cons]
  omega

set_option maxRecDepth 100000 in
set_option maxHeartbeats 3200000 in
theorem walk (w : World) (x : Nat) (hx : x < 2 ^ 64) (y : Nat) (hy : y < 2 ^ 64) :
    Calls Try.prog 7 #[.float .f64 x, .float .f64 y] w fun e w' => e = .returned (.bool true) ∧ Below w.heap.size w w' := by
  have HE := Lib.hid (fun W : World => euclid_any x y W hx hy)
  have HN := Lib.hid (fun W : World => nearest_any x y W hx hy)
  obtain ⟨l1, l2⟩ : 2 ≤ (eucW x y).length ∧ (eucW x y).length ≤ 200 := two modW x y
  obtain ⟨l3, l4⟩ : 2 ≤ (neaW x y).length ∧ (neaW x y).length ≤ 200 := two remW x y
  have EE := Lib.hid (fun (h1 : rg x < INF) (h2 : rg y < INF) (h3 : rg y ≠ 0) => euc_ends hx hy h1 h2 h3)
  have EN := Lib.hid (fun (h1 : rg x < INF) (h2 : rg y < INF) (h3 : rg y ≠ 0) => nea_ends hx hy h1 h2 h3)
  generalize eucW x y = L at *
  generalize neaW x y = M at *
  generalize Nat.gcd (fv x).natAbs (fv y).natAbs = g at *
  clear hx hy
  go_enter Try.func7, Try.ntmps7
  go_wp2_with fail
  ((with_reducible refine (HE.out _).mono ?_); rintro e w1 ⟨A1, c1, rfl, _, hown1, hbel1⟩)
  have hr1 := Lib.hid (Rd.of_own hown1)
  rw [fl_len]
  clear hown1
  go_wp2_with fail
  ((with_reducible refine (HN.out _).mono ?_); rintro e w2 ⟨A2, c2, rfl, _, hown2, hbel2⟩)
  have hr2 := Lib.hid (Rd.of_own hown2)
  have hr1 := Lib.hid ((hr1.out.below hbel2).more hbel2.size)
  rw [fl_len]
  clear hown2
  have HB := Lib.hid (hbel1.trans (hbel2.mono hbel1.size))
  clear hbel1 hbel2
  generalize hLn : L.length = ln at *
  generalize hMn : M.length = mn at *
  rcases Nat.lt_or_ge (rg x) INF with hfx | hfx
  · have HX := Lib.hid (fun W : World => specFinite_yes x W hfx)
    rcases Nat.lt_or_ge (rg y) INF with hfy | hfy
    · have HY := Lib.hid (fun W : World => specFinite_yes y W hfy)
      by_cases h0 : rg y = 0
      · have b0 := eq_zero_of h0
        clear hfx hfy EE EN h0
        go_wp2_with (go_at_call 14; first | (((with_reducible refine (HX.out _).mono ?_)); rintro e w' ⟨rfl, rfl⟩) | (((with_reducible refine (HY.out _).mono ?_)); rintro e w' ⟨rfl, rfl⟩))
        go_ret
        exact ⟨by simp <;> omega, HB.out⟩
      · have b0 := ne_zero_of h0
        have E1 := EE.out hfx hfy h0
        have E2 := EN.out hfx hfy h0
        have heq := abs_eq (E1.word _ E1.last_mem) (E2.word _ E2.last_mem) (E1.fin _ E1.last_mem) (E2.fin _ E2.last_mem) E1.val E2.val
        have HE1 := Lib.hid (ends_any L A1 c1 ln _ w2 E1 hLn hr1.out)
        have HE2 := Lib.hid (ends_any M A2 c2 mn _ w2 E2 hMn hr2.out)
        have HL1 := Lib.hid (last_any L A1 c1 ln _ w2 ⟨l1, l2⟩ hLn hr1.out)
        have HL2 := Lib.hid (last_any M A2 c2 mn _ w2 ⟨l3, l4⟩ hMn hr2.out)
        have HA1 := Lib.hid (fun W : World => specAbs_any (lastW L) W (E1.word _ E1.last_mem) (nan_false.2 (Nat.le_of_lt (E1.fin _ E1.last_mem))))
        have HA2 := Lib.hid (fun W : World => specAbs_any (lastW M) W (E2.word _ E2.last_mem) (nan_false.2 (Nat.le_of_lt (E2.fin _ E2.last_mem))))
        clear hfx hfy EE EN h0 E1 E2
        generalize lastW L = u at *
        generalize lastW M = v at *
        go_wp2_with (first | (go_at_call 14; first | (((with_reducible refine (HX.out _).mono ?_)); rintro e w' ⟨rfl, rfl⟩) | (((with_reducible refine (HY.out _).mono ?_)); rintro e w' ⟨rfl, rfl⟩)) | (go_at_call 19; first | (((with_reducible refine HE1.out.mono ?_)); rintro e w' ⟨rfl, rfl⟩) | (((with_reducible refine HE2.out.mono ?_)); rintro e w' ⟨rfl, rfl⟩)) | (go_at_call 21; first | (((with_reducible refine HL1.out.mono ?_)); rintro e w' ⟨rfl, rfl⟩) | (((with_reducible refine HL2.out.mono ?_)); rintro e w' ⟨rfl, rfl⟩)) | (go_at_call 15; first | (((with_reducible refine (HA1.out _).mono ?_)); rintro e w' ⟨rfl, rfl⟩) | (((with_reducible refine (HA2.out _).mono ?_)); rintro e w' ⟨rfl, rfl⟩)))
        go_ret
        exact ⟨rfl, HB.out⟩
    · have HY := Lib.hid (fun W : World => specFinite_no y W hfy)
      clear hfx hfy EE EN
      go_wp2_with (go_at_call 14; first | (((with_reducible refine (HX.out _).mono ?_)); rintro e w' ⟨rfl, rfl⟩) | (((with_reducible refine (HY.out _).mono ?_)); rintro e w' ⟨rfl, hq⟩))
      go_ret
      exact ⟨by simp <;> omega, HB.out.trans (hq.below _)⟩
  · have HX := Lib.hid (fun W : World => specFinite_no x W hfx)
    clear hfx EE EN
    go_wp2_with (go_at_call 14; ((with_reducible refine (HX.out _).mono ?_)); rintro e w' ⟨rfl, hq⟩)
    go_ret
    exact ⟨by simp <;> omega, HB.out.trans (hq.below _)⟩
end Go.Proofs.Ytmhdjhfkndfhmaa.LNearestDivisor
