/-
  The walk of laws.FnEuclidTail: it returns true, for all numbers.
-/
import Derived.Test.YtelhgahbhbinoaaEuc
import Derived.Test.YtelhgahbhbinoaaEul
import Derived.Test.YtelhgahbhbinoaaRed
import Derived.Test.YtelhgahbhbinoaaLawA
import Derived.Test.YtelhgahbhbinoaaRow
import Derived.Deep.RegionHeld3
namespace Go.Proofs.Ytelhgahbhbinoaa.LEuclidTail
open Go.RowKit Flt

theorem euc_len {x y : Nat} (hx : x < 2 ^ 64) (hy : y < 2 ^ 64) : 2 ≤ (eucW x y).length ∧ (eucW x y).length ≤ 109 := by
  have h := chw_mod_len hx hy
  have e : (eucW x y).length = (chw modW 198 x y).length + 2 := rfl
  omega
theorem euc_two {x y : Nat} (h : stopw y = true) : eucW x y = [x, y] := by unfold eucW; rw [chw_stop modW _ x h]
theorem euc_more {x y : Nat} (hx : x < 2 ^ 64) (hy : y < 2 ^ 64) (h : stopw y = false) : eucW x y = x :: eucW y (modW x y) := by
  have hz : modW x y < 2 ^ 64 := modW_lt
  have h1 := chw_mod_len hx hy
  have e1 := chw_go modW 197 x h
  unfold eucW
  rw [e1] at h1 ⊢
  rw [chw_more modW 197 y (modW x y) (by simp only [List.length_cons] at h1; omega)]

theorem alls_refl (l : List Nat) : Alls l l := ⟨rfl, fun _ _ => same_refl _⟩
end Go.Proofs.Ytelhgahbhbinoaa.LEuclidTail
namespace Go.Proofs.Ytelhgahbhbinoaa.LEuclidTail
open Go.RowKit Flt

set_option maxRecDepth 100000 in
set_option maxHeartbeats 3200000 in
theorem walk_two (w : World) (x : Nat) (hx : x < 2 ^ 64) (y : Nat) (hy : y < 2 ^ 64) (hs : stopw y = true) :
    Calls Try.prog 10 #[.float .f64 x, .float .f64 y] w fun e w' => e = .returned (.bool true) ∧ Below w.heap.size w w' := by
  have HE := Lib.hid (euclid_any x y w hx hy)
  rw [euc_two hs] at HE
  have HX := Lib.hid (fun W : World => same_any x x W)
  have HY := Lib.hid (fun W : World => same_any y y W)
  rw [same_refl] at HX HY
  have hor : ((FloatKind.f64.format.order y 0 == some .eq) = true) ∨ ((FloatKind.f64.format.order y 0 == some .eq) = false ∧ (FloatKind.f64.format.order y y != some .eq) = true) := by
    by_cases h0 : rg y = 0
    · exact Or.inl (eq_zero_of h0)
    · refine Or.inr ⟨ne_zero_of h0, ?_⟩
      have := of_decide_eq_true hs
      rw [c_self, nan_true.2 (by omega)]
  clear hs hx hy
  go_enter Try.func10, Try.ntmps10
  go_wp2_with fail
  ((with_reducible refine HE.out.mono ?_); rintro e w1 ⟨A, c, rfl, hc, hown, hbel⟩)
  have hr := Rd.of_own hown
  rw [show (fl [x, y]).length = 2 from rfl] at hc ⊢
  obtain ⟨ad, e0, _, c0⟩ := hr.fl (k := 0) (by simp)
  obtain ⟨ad1, e1, _, c1⟩ := hr.fl (k := 1) (by simp)
  cases e0; cases e1
  have hA0 : ad.add 0 = ad := by simp [Addr.add]
  rw [hA0, show [x, y].getD 0 0 = x from rfl] at c0
  rw [show [x, y].getD 1 0 = y from rfl] at c1
  simp [Addr.add] at c1
  clear hown HE hr hA0
  rcases hor with b0 | ⟨b0, b1⟩
  all_goals
    go_wp2_with (go_at_call 19; first | (((with_reducible refine (HX.out _).mono ?_)); rintro e w' ⟨rfl, rfl⟩) | (((with_reducible refine (HY.out _).mono ?_)); rintro e w' ⟨rfl, rfl⟩))
    go_ret
    exact ⟨rfl, hbel⟩

set_option maxRecDepth 100000 in
set_option maxHeartbeats 3200000 in
theorem walk_more (w : World) (x : Nat) (hx : x < 2 ^ 64) (y : Nat) (hy : y < 2 ^ 64) (hs : stopw y = false) :
    Calls Try.prog 10 #[.float .f64 x, .float .f64 y] w fun e w' => e = .returned (.bool true) ∧ Below w.heap.size w w' := by
  have hzl : modW x y < 2 ^ 64 := modW_lt
  obtain ⟨l1, l2⟩ := euc_len hy hzl
  obtain ⟨_, l3⟩ := euc_len hx hy
  have HE := Lib.hid (euclid_any x y w hx hy)
  rw [euc_more hx hy hs] at HE l3
  have HX := Lib.hid (fun W : World => same_any x x W)
  have HY := Lib.hid (fun W : World => same_any y y W)
  have HM := Lib.hid (fun W : World => impMod_any x y W hx hy)
  have HZ := Lib.hid (fun W : World => same_any (modW x y) (modW x y) W)
  rw [same_refl] at HX HY HZ
  have HT := Lib.hid (fun W : World => euclid_any y (modW x y) W hy hzl)
  have hg0 : Hid ((eucW y (modW x y)).getD 0 0 = y) := rfl
  have hg1 : Hid ((eucW y (modW x y)).getD 1 0 = modW x y) := rfl
  generalize eucW y (modW x y) = L at *
  generalize modW x y = z at *
  clear hs
  go_enter Try.func10, Try.ntmps10
  go_wp2_with fail
  ((with_reducible refine HE.out.mono ?_); rintro e w1 ⟨A, c, rfl, hc, hown, hbel⟩)
  have hr := Rd.of_own hown
  rw [fl_len] at hc ⊢
  generalize hN : (x :: L).length = N at *
  have hNL : L.length + 1 = N := hN
  have HN := Lib.hid hN
  clear hN
  obtain ⟨ad, e0, _, c0⟩ := hr.fl (k := 0) (by rw [HN.out]; omega)
  obtain ⟨ad1, e1, _, c1⟩ := hr.fl (k := 1) (by rw [HN.out]; omega)
  obtain ⟨ad2, e2, _, c2⟩ := hr.fl (k := 2) (by rw [HN.out]; omega)
  cases e0; cases e1; cases e2
  have hA0 : ad.add 0 = ad := by simp [Addr.add]
  rw [hA0, show (x :: L).getD 0 0 = x from rfl] at c0
  rw [show (x :: L).getD 1 0 = L.getD 0 0 from rfl, hg0.out] at c1
  rw [show (x :: L).getD 2 0 = L.getD 1 0 from rfl, hg1.out] at c2
  have hdr := hr.drop (cap := c) (k := 1) (by rw [fl_len, HN.out]; exact hc) (by rw [fl_len, HN.out]; omega)
  rw [if_neg (by omega), fl_drop, show (x :: L).drop 1 = L from rfl] at hdr
  have hA1 : ad.add 1 = ⟨ad.block, ad.off + 1, none⟩ := by simp [Addr.add]
  rw [Option.map_some, hA1] at hdr
  have hQ := Lib.hid (fun (W w2 : World) (A2 : Option Addr) (c3 : Nat) (q : Qt w1 W) (ho : w2.ownsRow W.heap.size 23 1 (.slice A2 (fl L).length c3) (fl L).length (fl L)) (hb : Below W.heap.size W w2) =>
    sameAll_any L L A2 (some ⟨ad.block, ad.off + 1, none⟩) c3 (c - 1) L.length L.length w2.heap.size w2 rfl rfl (by omega) (Rd.of_own ho) (((hdr.qt q).below' hb (Nat.le_of_eq q.size.symm)).more (Nat.le_trans (Nat.le_of_eq q.size.symm) hb.size)) (alls_refl L))
  simp [Addr.add] at c1 c2
  have h200 : ((N : Int) == 200) = false := by simp; omega
  have hn2 : ((N : Int) == 2) = false := by simp; omega
  have h200' : ¬ N = 200 := by omega
  have hn2' : ¬ N = 2 := by omega
  have h3 : decide ((N : Int) < 2) = false := decide_eq_false (by omega)
  have h4 : 3 ≤ N := by omega
  have HNL := Lib.hid hNL
  clear hown HE hr hA0 hg0 hg1 hdr hNL hA1
  go_wp2_with (go_at_call 19; first | (((with_reducible refine (HX.out _).mono ?_)); rintro e w' ⟨rfl, rfl⟩) | (((with_reducible refine (HY.out _).mono ?_)); rintro e w' ⟨rfl, rfl⟩))
  have hN1 : Hid (N - 1 = L.length) := by show _ = _; have := HNL.out; omega
  go_region_with (first | (go_at_call 18; ((with_reducible refine (HM.out _).mono ?_)); rintro e w' ⟨rfl, rfl⟩) | (go_at_call 19; ((with_reducible refine (HZ.out _).mono ?_)); rintro e w' ⟨rfl, rfl⟩) | (go_at_call 22; ((with_reducible refine (HT.out _).mono ?_)); rintro e w2 ⟨A2, c2, rfl, hc2, hown2, hbel2⟩; have hsm := Lib.hid (hQ.out _ w2 A2 c2 (by first | exact Qt.refl _ | exact (Qt.refl _).drew | exact (Qt.refl _).drew.drew | exact (Qt.refl _).drewN _) hown2 hbel2); rw [fl_len]) | (go_at_call 24; rw [hN1.out]; ((with_reducible refine hsm.out.mono ?_)); rintro e w4 ⟨rfl, hq⟩))
  all_goals
    go_wp2
    go_ret
    refine ⟨rfl, ?_⟩
    have b2 := hbel2.mono (show w.heap.size ≤ _ from hbel.size)
    exact ((hbel.trans (Qt.below (by first | exact (Qt.refl _).drew | exact (Qt.refl _).drew.drew | exact (Qt.refl _).drewN _) _)).trans b2).trans (hq.below _)

theorem walk (w : World) (x : Nat) (hx : x < 2 ^ 64) (y : Nat) (hy : y < 2 ^ 64) :
    Calls Try.prog 10 #[.float .f64 x, .float .f64 y] w fun e w' => e = .returned (.bool true) ∧ Below w.heap.size w w' := by
  cases h : stopw y
  · exact walk_more w x hx y hy h
  · exact walk_two w x hx y hy h
end Go.Proofs.Ytelhgahbhbinoaa.LEuclidTail
