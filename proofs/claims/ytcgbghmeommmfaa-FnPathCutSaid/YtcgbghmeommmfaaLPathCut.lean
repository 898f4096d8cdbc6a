/-
  The walk of laws.FnPathCut: it returns true, for all words x, y and all n, k.
-/
import Derived.Test.YtcgbghmeommmfaaLawA
import Derived.Test.YtcgbghmeommmfaaPth
import Derived.Deep.RegionWith
namespace Go.Proofs.Ytcgbghmeommmfaa.LPathCut
open Go.RowKit Flt

theorem alls (x y m j : Nat) (hj : j ≤ m) : Alls (pathW y (it y x j) (m - j)) ((pathW y x m).drop j) := by
  refine ⟨by rw [List.length_drop, pathW_len, pathW_len]; omega, fun k hk => ?_⟩
  rw [pathW_len] at hk
  rw [pathW_get (by omega), List.getD_eq_getElem?_getD, List.getElem?_drop, ← List.getD_eq_getElem?_getD, pathW_get (by omega), it_add]
  exact same_refl _

set_option maxHeartbeats 800000 in
theorem walk (w : World) (x : Nat) (hx : x < 2 ^ 64) (y : Nat) (hy : y < 2 ^ 64) (n : Int) (_hn : -9223372036854775808 ≤ n ∧ n ≤ 9223372036854775807) (k : Int) (_hk : -9223372036854775808 ≤ k ∧ k ≤ 9223372036854775807) :
    Calls Try.prog 4 #[.float .f64 x, .float .f64 y, .int .i64 n, .int .i64 k] w fun e w' => e = .returned (.bool true) ∧ Below w.heap.size w w' := by
  go_enter Try.func4, Try.ntmps4
  go_wp2_with fail
  refine (path_any _ _ _ _ hx hy).mono ?_
  have hm200 : (n % 200).toNat < 200 := by omega
  have hmi : n % 200 = ((n % 200).toNat : Int) := by omega
  generalize (n % 200).toNat = m at *
  have hM := Lib.hid hmi
  clear hmi
  rintro e w1 ⟨A, c, rfl, hc, hown, hbel⟩
  have hr := Rd.of_own hown
  rw [pathV_len] at *
  clear hown
  go_wp2_with fail
  refine (specAt_any _ _ _ (by decide) (by decide)).mono ?_
  rintro e w2 ⟨rfl, rfl⟩
  rw [hM.out]
  go_wp2_with fail
  refine (specAt_any _ _ _ (by omega) (by omega)).mono ?_
  rintro e w2 ⟨rfl, rfl⟩
  obtain ⟨j, hj, hjm⟩ : ∃ j : Nat, k % ((m : Int) + 1) = (j : Int) ∧ j ≤ m := by
    have h1 := Int.emod_nonneg k (show ((m : Int) + 1) ≠ 0 by omega)
    have h2 := Int.emod_lt_of_pos k (show (0 : Int) < ((m : Int) + 1) by omega)
    exact ⟨(k % ((m : Int) + 1)).toNat, by omega, by omega⟩
  rw [hj]
  have hjb : (j : Int) < (m : Int) + 1 := by omega
  have hS := Lib.hid (alls x y m j hjm)
  obtain ⟨ad, rfl, _, c1⟩ := hr.fl (k := j) (by rw [pathW_len]; omega)
  rw [pathW_get hjm] at c1
  have hlj := it_lt y hx j
  have hdr := hr.drop (cap := c) (k := j) (by rw [pathV_len]; exact hc) (by rw [pathV_len]; omega)
  unfold pathV at hdr
  rw [if_neg (by omega), fl_drop] at hdr
  have hdl : Hid (((pathW y x m).drop j).length = m + 1 - j) := by show _ = _; rw [List.length_drop, pathW_len]
  generalize it y x j = p at *
  have hP := Lib.hid (fun W : World => path_any p y ((m : Int) - j) W hlj hy)
  rw [show (((m : Int) - j) % 200).toNat = m - j by omega] at hP
  have hQ := Lib.hid (fun (w2 : World) (A2 : Option Addr) (c2 : Nat) (ho : w2.ownsRow w1.heap.size 22 1 (.slice A2 (pathV y p (m - j)).length c2) (pathV y p (m - j)).length (pathV y p (m - j))) (hb : Below w1.heap.size w1.drew w2) =>
    sameAll_any (pathW y p (m - j)) ((pathW y x m).drop j) A2 (some (ad.add j)) c2 (c - j) (m - j + 1) (m + 1 - j) w2.heap.size w2 (pathW_len _ _ _) hdl.out (by omega) (Rd.of_own ho) ((hdr.below (((Qt.refl w1).drew.below _).trans hb)).more hb.size) hS.out)
  clear hj hr
  go_wp2_with fail
  have hw1 : IntKind.i64.wrap (m : Int) = (m : Int) := IntWalk.i64_in _ (by omega)
  have hw2 : IntKind.i64.wrap ((m : Int) - (j : Int)) = (m : Int) - (j : Int) := IntWalk.i64_in _ (by omega)
  go_region_with (first | (go_at_call 15; ((with_reducible refine (hP.out _).mono ?_)); rintro e w2 ⟨A2, c2, rfl, hc2, hown2, hbel2⟩; have hsm := Lib.hid (hQ.out w2 A2 c2 hown2 hbel2); rw [pathV_len]) | (go_at_call 18; ((with_reducible refine hsm.out.mono ?_)); rintro e w4 ⟨rfl, hq⟩))
  all_goals
    clear hw1 hw2
    go_wp2
    go_ret
    exact ⟨rfl, ((hbel.trans ((Qt.refl w1).drew.below _)).trans (hbel2.mono hbel.size)).trans (hq.below _)⟩
end Go.Proofs.Ytcgbghmeommmfaa.LPathCut
