/-
  The walk of laws.FnHornerOpposite: it returns true, for every start, every list and every x.
-/
import Derived.Test.YtbhallblmphlmaaHor
import Derived.Test.YtbhallblmphlmaaNeg
import Derived.Test.YtbhallblmphlmaaLawA
import Derived.Test.YtbhallblmphlmaaRow
namespace Go.Proofs.Ytbhallblmphlmaa.LHornerOpposite
open Go.RowKit Flt

theorem horv_neg (x : Val) : ∀ (l : List Val) (s : Val), horv x (negv s) (l.map negv) = negv (horv x s l) := by
  intro l
  induction l with
  | nil => intro s; rfl
  | cons b l ih =>
    intro s
    show horv x (fmv (negv s) x (negv b)) (l.map negv) = negv (horv x (fmv s x b) l)
    rw [fmv_neg, ih]
theorem vl_negs {l : List Nat} (h : ∀ b ∈ l, b < 2 ^ 64) : (negs l).map vl = (l.map vl).map negv := by
  unfold negs
  rw [List.map_map, List.map_map]
  refine List.map_congr_left fun b hb => ?_
  exact vl_neg (h b hb)

set_option maxHeartbeats 1600000 in
theorem walk (w : World) (s : Nat) (hs : s < 2 ^ 64) (A : Option Addr) (n c : Nat) (l : List Nat) (h : FRow w A n c l) (y : Nat) (_hy : y < 2 ^ 64) :
    Calls Try.prog 6 #[.float .f64 s, .slice A n c, .float .f64 y] w fun e' w' => e' = .returned (.bool true) ∧ Below w.heap.size w w' := by
  obtain ⟨hlen0, hcap, hroom, hrd, hwd0⟩ := h
  have hlen := Lib.hid hlen0
  have hnl := Lib.hid (vl_negs hwd0)
  have hng := neg_word
  have o1 := one_three
  have hns := neg_lt s hs
  have HN := Lib.hid (negated_any l A c n w.heap.size w hlen0 hroom (Nat.le_refl _) hrd)
  clear hlen0 hwd0 hcap
  go_enter Try.func6, Try.ntmps6
  go_wp2_with fail
  ((with_reducible refine HN.out.mono ?_); rintro e w2 ⟨A2, c2, rfl, hc2, hown2, hbel2⟩)
  have r2 := Rd.of_own hown2
  have r1' := (hrd.below hbel2).more hbel2.size
  have hl2 : (fl (negs l)).length = n := by rw [fl_len, negs_len, hlen.out]
  rw [hl2]
  clear hown2 hc2 hl2 HN hrd
  go_wp2_with fail
  ((with_reducible refine (horner_any _ _ (negs l) _ _ _ _ _ hns (by rw [negs_len, hlen.out]) (by omega) r2).mono ?_); rintro e w3 ⟨b3, rfl, v3, l3, q3⟩; have V3 := Lib.hid v3; clear v3)
  have r3 := (r1'.qt q3).more (Nat.le_of_eq q3.size.symm)
  clear r1' r2
  go_wp2_with fail
  ((with_reducible refine (horner_any _ _ l _ _ _ _ _ hs hlen.out (by omega) r3).mono ?_); rintro e w4 ⟨b4, rfl, v4, l4, q4⟩; have V4 := Lib.hid v4; clear v4)
  have HS := Lib.hid (fun W : World => same_any b3 (Op.negFloat .f64 b4) W)
  rw [vl_same (show vl b3 = vl (Op.negFloat .f64 b4) by rw [V3.out, vl_neg l4, V4.out, hnl.out, vl_neg hs, horv_neg])] at HS
  clear V3 V4
  go_wp2_with fail
  ((with_reducible refine (HS.out _).mono ?_); rintro e w' ⟨rfl, rfl⟩)
  go_wp2_with fail
  ((with_reducible refine (horner_nil _ _ _ _ _).mono ?_); rintro e w' ⟨rfl, rfl⟩)
  go_wp2
  go_ret
  exact ⟨rfl, hbel2.trans ((q3.trans q4).below _)⟩
end Go.Proofs.Ytbhallblmphlmaa.LHornerOpposite
