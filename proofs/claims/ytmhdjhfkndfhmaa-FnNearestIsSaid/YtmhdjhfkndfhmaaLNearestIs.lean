/-
  The walk of laws.FnNearestIs: it returns true, for all numbers.
-/
import Derived.Test.YtmhdjhfkndfhmaaSpT
import Derived.Test.YtmhdjhfkndfhmaaNea
import Derived.Test.YtmhdjhfkndfhmaaLawA
import Derived.Test.YtmhdjhfkndfhmaaRow
namespace Go.Proofs.Ytmhdjhfkndfhmaa.LNearestIs
open Go.RowKit Flt

theorem alls_vl {xs ys : List Nat} (h : xs.map vl = ys.map vl) : Alls xs ys := by
  have hl : xs.length = ys.length := by have := congrArg List.length h; rwa [List.length_map, List.length_map] at this
  refine ⟨hl, fun k hk => vl_same ?_⟩
  have h1 := congrArg (fun l : List Val => l[k]?) h
  simp only [List.getElem?_map] at h1
  rw [List.getElem?_eq_getElem hk, List.getElem?_eq_getElem (show k < ys.length by omega)] at h1
  rw [List.getD_eq_getElem?_getD, List.getD_eq_getElem?_getD, List.getElem?_eq_getElem hk, List.getElem?_eq_getElem (show k < ys.length by omega)]
  exact Option.some.inj h1

set_option maxHeartbeats 400000 in
theorem specNearest_any (x y : Nat) (w : World) (hx : x < 2 ^ 64) (hy : y < 2 ^ 64) :
    Calls Try.prog 17 #[.float .f64 x, .float .f64 y] w (RowVals (vl x :: vl y :: chn remv 198 (vl x) (vl y)) w) := by
  have H := Lib.hid (chain_any x y true w hx hy)
  clear hx hy
  go_enter Try.func17, Try.ntmps17
  go_wp2_with fail
  ((with_reducible refine H.out.mono ?_); rintro e w1 ⟨L, hL, hw, A, c, rfl, hc, hown, hbel⟩)
  have hN := Lib.hid (NewRow.mk hown hbel)
  have HL := Lib.hid hL
  have HW := Lib.hid hw
  clear hL hw hown hbel
  go_wp2
  go_ret
  exact ⟨L, HL.out, HW.out, hN.out⟩

theorem neaW_words {x y : Nat} (hx : x < 2 ^ 64) (hy : y < 2 ^ 64) : (neaW x y).map vl = vl x :: vl y :: chn remv 198 (vl x) (vl y) := by
  show vl x :: vl y :: (chw remW 198 x y).map vl = _
  rw [chw_vl remW_w (fun a b _ => vl_remW a b) 198 x y hx hy]

set_option maxHeartbeats 800000 in
theorem walk (w : World) (x : Nat) (hx : x < 2 ^ 64) (y : Nat) (hy : y < 2 ^ 64) :
    Calls Try.prog 4 #[.float .f64 x, .float .f64 y] w fun e w' => e = .returned (.bool true) ∧ Below w.heap.size w w' := by
  have HE := Lib.hid (nearest_any x y w hx hy)
  have HV := Lib.hid (neaW_words hx hy)
  have hlen : (neaW x y).length ≤ 200 := by
    have h := chw_len remW 198 x y
    show (chw remW 198 x y).length + 2 ≤ 200
    omega
  generalize neaW x y = L at *
  go_enter Try.func4, Try.ntmps4
  go_wp2_with fail
  ((with_reducible refine HE.out.mono ?_); rintro e w1 ⟨A, c, rfl, hc, hown, hbel⟩)
  have hr := Rd.of_own hown
  rw [fl_len]
  clear hown hc
  go_wp2_with fail
  ((with_reducible refine (specNearest_any x y w1 hx hy).mono ?_); rintro e w2 ⟨L2, hL2, hw2, A2, c2, rfl, hc2, hown2, hbel2⟩)
  have hr2 := Rd.of_own hown2
  have HA := Lib.hid (alls_vl (HV.out.trans hL2.symm))
  have HS := Lib.hid (sameAll_any L L2 A A2 c c2 L.length L2.length w2.heap.size w2 rfl rfl (by omega) ((hr.below hbel2).more hbel2.size) hr2 HA.out)
  rw [fl_len]
  clear hown2 hc2 hL2 hw2 hr hr2
  go_wp2_with fail
  ((with_reducible refine HS.out.mono ?_); rintro e w3 ⟨rfl, q3⟩)
  go_wp2
  go_ret
  exact ⟨rfl, (hbel.trans (hbel2.mono hbel.size)).trans (q3.below _)⟩
end Go.Proofs.Ytmhdjhfkndfhmaa.LNearestIs
