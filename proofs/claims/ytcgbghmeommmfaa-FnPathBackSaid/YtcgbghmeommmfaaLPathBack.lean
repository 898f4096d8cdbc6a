/-
  The walk of laws.FnPathBack: it returns true, for all words x, y and every n.
-/
import Derived.Test.YtcgbghmeommmfaaLawA
import Derived.Test.YtcgbghmeommmfaaRev
import Derived.Test.YtcgbghmeommmfaaPth
namespace Go.Proofs.Ytcgbghmeommmfaa.LPathBack
open Go.RowKit Flt

theorem alls0 (x y : Nat) : Alls (pathW x (it y x 0) 0) (pathW y x 0).reverse := by
  refine ⟨by rw [List.length_reverse, pathW_len, pathW_len], fun k hk => ?_⟩
  rw [pathW_len] at hk
  obtain rfl : k = 0 := by omega
  exact same_refl _

theorem alls (x y m : Nat) (hx : x < 2 ^ 64) (h : same (it y x (m + 1)) (it y x m) = false) (hn : nan (it y x (m + 1)) = false) : Alls (pathW x (it y x (m + 1)) (m + 1)) (pathW y x (m + 1)).reverse := by
  refine ⟨by rw [List.length_reverse, pathW_len, pathW_len], fun k hk => ?_⟩
  rw [pathW_len] at hk
  rw [pathW_get (by omega), List.getD_eq_getElem?_getD, List.getElem?_reverse (by rw [pathW_len]; omega), ← List.getD_eq_getElem?_getD, pathW_len, pathW_get (by omega)]
  exact it_back hx m h hn k (by omega)

/-- the last part of the law, from the world behind the first path on -/
theorem last_part (p x y m c : Nat) (hp : p < 2 ^ 64) (hx : x < 2 ^ 64) (hm : m < 200) (w1 W : World) (A : Option Addr) (hr : Rd w1 w1.heap.size A (pathV y x m)) (hq : Qt w1 W) (hS : Alls (pathW x p m) (pathW y x m).reverse) :
    Calls Try.prog 15 #[.float .f64 p, .float .f64 x, .int .i64 (m : Int)] W fun e w2 => ∃ A2 c2, e = .returned (.slice A2 (m + 1) c2) ∧ Below W.heap.size W w2 ∧
      Calls Try.prog 19 #[.slice A (m + 1) c] w2 fun e w3 => ∃ A3 c3, e = .returned (.slice A3 (m + 1) c3) ∧ Below w2.heap.size w2 w3 ∧
        Calls Try.prog 18 #[.slice A2 (m + 1) c2, .slice A3 (m + 1) c3] w3 fun e w4 => e = .returned (.bool true) ∧ Qt w3 w4 := by
  have hP := path_any p x (m : Int) W hp hx
  rw [show ((m : Int) % 200).toNat = m by omega] at hP
  refine hP.mono ?_
  rintro e w2 ⟨A2, c2, rfl, hc2, hown2, hbel2⟩
  have hr2 := Rd.of_own hown2
  rw [pathV_len]
  have hr1 := ((hr.qt hq).more (Nat.le_of_eq hq.size.symm)).below hbel2
  refine ⟨A2, c2, rfl, hbel2, ?_⟩
  refine (reversed_any (pathW y x m) A c (m + 1) W.heap.size w2 (pathW_len _ _ _) (by omega) hbel2.size hr1).mono ?_
  rintro e w3 ⟨A3, c3, rfl, hc3, hown3, hbel3⟩
  have hr3 := Rd.of_own hown3
  have hl : (fl (pathW y x m).reverse).length = m + 1 := by rw [fl_len, List.length_reverse, pathW_len]
  rw [hl]
  refine ⟨A3, c3, rfl, hbel3, ?_⟩
  exact sameAll_any _ _ _ _ _ _ _ _ _ _ (pathW_len _ _ m) (by rw [List.length_reverse, pathW_len]) (by omega) ((hr2.below hbel3).more hbel3.size) hr3 hS

set_option maxHeartbeats 1600000 in
theorem walk (w : World) (x : Nat) (hx : x < 2 ^ 64) (y : Nat) (hy : y < 2 ^ 64) (n : Int) (_hn : -9223372036854775808 ≤ n ∧ n ≤ 9223372036854775807) :
    Calls Try.prog 3 #[.float .f64 x, .float .f64 y, .int .i64 n] w fun e w' => e = .returned (.bool true) ∧ Below w.heap.size w w' := by
  go_enter Try.func3, Try.ntmps3
  go_wp2_with fail
  refine (path_any _ _ _ _ hx hy).mono ?_
  have hm200 : (n % 200).toNat < 200 := by omega
  have hmi : n % 200 = ((n % 200).toNat : Int) := by omega
  generalize (n % 200).toNat = m at *
  have hM := Lib.hid hmi
  clear hmi
  rintro e w1 ⟨A, c, rfl, hc, hown, hbel⟩
  have hr := Rd.of_own hown
  rw [pathV_len] at *
  clear hown
  obtain ⟨N, hN⟩ : ∃ N, m + 1 = N := ⟨_, rfl⟩
  rw [hN] at hc ⊢
  have hw2 : IntKind.i64.wrap ((N : Int) - 1) = (m : Int) := by rw [IntWalk.i64_in _ (by omega)]; omega
  have HN := Lib.hid hN
  clear hN
  go_wp2_with fail
  refine (specAt_any _ _ _ (by decide) (by decide)).mono ?_
  rintro e w2 ⟨rfl, rfl⟩
  rw [hM.out]
  clear hw2
  have hN := HN.out
  obtain ⟨ad, rfl, _, c1⟩ := hr.fl (k := m) (by rw [pathW_len]; omega)
  rw [pathW_get (Nat.le_refl _)] at c1
  have hlm := it_lt y hx m
  rcases m with _ | m
  · have hL := Lib.hid (fun (W : World) (hq : Qt w1 W) => last_part (it y x 0) x y 0 c hlm hx (by omega) w1 W (some ad) hr hq (alls0 x y))
    clear hr hM HN
    generalize it y x 0 = p at *
    subst hN
    simp only [Nat.zero_add, Int.natCast_zero] at *
    go_wp2_with fail
    go_quiet (fail)
    have hq1 : Qt w1 (w1.drewN nq) := ⟨nq, rfl⟩
    have hbq := hq1.below w.heap.size
    have hLq := Lib.hid (hL.out _ hq1)
    simp [Addr.add] at c1
    have c1' := (hq1.cell _).trans c1
    clear hL hq1 c1
    generalize w1.drewN nq = wq at *
    go_wp2_with fail
    ((with_reducible refine hLq.out.mono ?_); rintro e w2 ⟨A2, c2, rfl, hb2, h3⟩; have H3 := Lib.hid h3; clear h3 hLq)
    go_wp2_with fail
    ((with_reducible refine H3.out.mono ?_); rintro e w3 ⟨A3, c3, rfl, hb3, h4⟩; have H4 := Lib.hid h4; clear h4 H3)
    go_wp2_with fail
    ((with_reducible refine H4.out.mono ?_); rintro e w4 ⟨rfl, hq4⟩; clear H4)
    go_wp2
    go_ret
    exact ⟨rfl, (((hbel.trans hbq).trans (hb2.mono (by have := hbel.size; have := hbq.size; omega))).trans (hb3.mono (by have := hbel.size; have := hbq.size; have := hb2.size; omega))).trans (hq4.below _)⟩
  · obtain ⟨ad', e2, _, c2⟩ := hr.fl (k := m) (by rw [pathW_len]; omega)
    cases e2
    rw [pathW_get (by omega)] at c2
    have c3 := c1
    cases hs : same (it y x (m + 1)) (it y x m)
    · have hA := fun hn => alls x y m hx hs hn
      have hL := Lib.hid (fun (W : World) (hq : Qt w1 W) (hn : nan (it y x (m + 1)) = false) => last_part (it y x (m + 1)) x y (m + 1) c hlm hx (by omega) w1 W (some ad) hr hq (hA hn))
      have hsn := c_self (it y x (m + 1))
      clear hr hM hA
      generalize it y x (m + 1) = p at *
      generalize it y x m = p' at *
      generalize hk : m + 1 = k at *
      rw [hN] at hL
      have hmk : m < N := by omega
      have hmk1 : k < N := by omega
      have hmk2 : 0 < k := by omega
      have hw : IntKind.i64.wrap ((k : Int) - 1) = (m : Int) := by rw [IntWalk.i64_in _ (by omega)]; omega
      clear hk hN HN
      cases hn : nan p
      · rw [hn] at hsn
        go_wp2_with fail
        go_quiet ((go_at_call 17; exact quiet_w (same_any _ _ _)))
        have hq1 : Qt w1 (w1.drewN nq) := ⟨nq, rfl⟩
        have hbq := hq1.below w.heap.size
        have hLq := Lib.hid (hL.out _ hq1 hn)
        have c1' := (hq1.cell _).trans c1
        clear hL hq1 c1 hn
        generalize w1.drewN nq = wq at *
        go_wp2_with fail
        ((with_reducible refine hLq.out.mono ?_); rintro e w2 ⟨A2, c2, rfl, hb2, h3⟩; have H3 := Lib.hid h3; clear h3 hLq)
        go_wp2_with fail
        ((with_reducible refine H3.out.mono ?_); rintro e w3 ⟨A3, c3, rfl, hb3, h4⟩; have H4 := Lib.hid h4; clear h4 H3)
        go_wp2_with fail
        ((with_reducible refine H4.out.mono ?_); rintro e w4 ⟨rfl, hq4⟩; clear H4)
        go_wp2
        go_ret
        exact ⟨rfl, (((hbel.trans hbq).trans (hb2.mono (by have := hbel.size; have := hbq.size; omega))).trans (hb3.mono (by have := hbel.size; have := hbq.size; have := hb2.size; omega))).trans (hq4.below _)⟩
      · rw [hn] at hsn
        clear hL hn
        go_wp2_with fail
        go_quiet ((go_at_call 17; exact quiet_w (same_any _ _ _)))
        go_wp2
        go_ret
        exact ⟨rfl, hbel.trans ((Qt.drewN (Qt.refl w1) _).below _)⟩
    · clear hr hM
      generalize it y x (m + 1) = p at *
      generalize it y x m = p' at *
      generalize hk : m + 1 = k at *
      have hmk : m < N := by omega
      have hmk1 : k < N := by omega
      have hmk2 : 0 < k := by omega
      have hw : IntKind.i64.wrap ((k : Int) - 1) = (m : Int) := by rw [IntWalk.i64_in _ (by omega)]; omega
      clear hk hN HN
      have hC := Lib.hid (fun W : World => same_any p p' W)
      rw [hs] at hC
      clear hs
      go_wp2_with fail
      go_quiet ((go_at_call 17; exact quiet_w (hC.out _)))
      go_wp2
      go_ret
      exact ⟨rfl, hbel.trans ((Qt.drewN (Qt.refl w1) _).below _)⟩
end Go.Proofs.Ytcgbghmeommmfaa.LPathBack
