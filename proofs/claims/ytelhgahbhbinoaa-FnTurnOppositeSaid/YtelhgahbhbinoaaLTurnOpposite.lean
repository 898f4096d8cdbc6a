/-
  The walk of laws.FnTurnOpposite: it returns true, for every start, all steps and every whole turn.
-/
import Derived.Test.YtelhgahbhbinoaaTrn
import Derived.Test.YtelhgahbhbinoaaNeg
import Derived.Test.YtelhgahbhbinoaaLawA
import Derived.Test.YtelhgahbhbinoaaRow
namespace Go.Proofs.Ytelhgahbhbinoaa.LTurnOpposite
open Go.RowKit Flt

theorem remi_neg_left (u v : Int) : remi (-u) v = -remi u v := by
  unfold remi
  rw [Int.natAbs_neg]
  by_cases h0 : u = 0
  · subst h0
    rw [Int.natAbs_zero, remN_zero]; rfl
  · by_cases h : u < 0
    · rw [if_neg (by omega), if_pos h]; omega
    · rw [if_pos (by omega), if_neg h]
theorem remv_neg_left (a y : Val) : remv (negv a) y = negv (remv a y) := by
  cases a with
  | nan => rfl
  | inf s => rfl
  | num u => cases y with
    | nan => rfl
    | inf s => rfl
    | num v =>
      show (if v = 0 then Val.nan else .num (remi (-u) v)) = negv (if v = 0 then Val.nan else .num (remi u v))
      split
      · rfl
      · rw [remi_neg_left]; rfl
theorem remv_neg_right (a y : Val) : remv a (negv y) = remv a y := by
  cases a with
  | nan => rfl
  | inf s => rfl
  | num u => cases y with
    | nan => rfl
    | inf s => rfl
    | num v =>
      show (if -v = 0 then Val.nan else .num (remi u (-v))) = (if v = 0 then Val.nan else .num (remi u v))
      have e : remi u (-v) = remi u v := by unfold remi; rw [Int.natAbs_neg]
      rw [e]
      by_cases h : v = 0
      · rw [if_pos h, if_pos (by omega)]
      · rw [if_neg h, if_neg (by omega)]
theorem turnv_neg (y : Val) : ∀ (l : List Val) (s : Val), turnv y (negv s) (l.map negv) = negv (turnv y s l) := by
  intro l
  induction l with
  | nil => intro s; rfl
  | cons b l ih =>
    intro s
    show turnv y (remv (addv (negv s) (negv b)) y) (l.map negv) = negv (turnv y (remv (addv s b) y) l)
    rw [addv_neg, remv_neg_left, ih]
theorem turnv_negy (y : Val) : ∀ (l : List Val) (s : Val), turnv (negv y) s l = turnv y s l := by
  intro l
  induction l with
  | nil => intro s; rfl
  | cons b l ih =>
    intro s
    show turnv (negv y) (remv (addv s b) (negv y)) l = turnv y (remv (addv s b) y) l
    rw [remv_neg_right, ih]
theorem vl_negs {l : List Nat} (h : ∀ b ∈ l, b < 2 ^ 64) : (negs l).map vl = (l.map vl).map negv := by
  unfold negs
  rw [List.map_map, List.map_map]
  refine List.map_congr_left fun b hb => ?_
  exact vl_neg (h b hb)

set_option maxHeartbeats 1600000 in
theorem walk (w : World) (s : Nat) (hs : s < 2 ^ 64) (A : Option Addr) (n c : Nat) (l : List Nat) (h : FRow w A n c l) (y : Nat) (hy : y < 2 ^ 64) :
    Calls Try.prog 13 #[.float .f64 s, .slice A n c, .float .f64 y] w fun e' w' => e' = .returned (.bool true) ∧ Below w.heap.size w w' := by
  obtain ⟨hlen0, hcap, hroom, hrd, hwd0⟩ := h
  have hlen := Lib.hid hlen0
  have hnl := Lib.hid (vl_negs hwd0)
  have hng := neg_word
  have o1 := one_two
  have hns := neg_lt s hs
  have hny := neg_lt y hy
  have HT := Lib.hid (turn_any s y l A c n w.heap.size w hs hy hlen0 (by omega) hrd)
  clear hlen0 hwd0 hcap
  go_enter Try.func13, Try.ntmps13
  go_wp2_with fail
  ((with_reducible refine HT.out.mono ?_); rintro e w1 ⟨b1, rfl, v1, l1, q1⟩; have V1 := Lib.hid v1; clear v1 HT)
  have r1 := (hrd.qt q1).more (Nat.le_of_eq q1.size.symm)
  go_wp2_with fail
  ((with_reducible refine (negated_any l _ _ _ _ _ hlen.out hroom (Nat.le_refl _) r1).mono ?_); rintro e w2 ⟨A2, c2, rfl, hc2, hown2, hbel2⟩)
  have r2 := Rd.of_own hown2
  have r1' := (r1.below hbel2).more hbel2.size
  have hl2 : (fl (negs l)).length = n := by rw [fl_len, negs_len, hlen.out]
  rw [hl2]
  clear hown2 hc2 hl2 r1 hrd
  go_wp2_with fail
  ((with_reducible refine (turn_any _ _ (negs l) _ _ _ _ _ hns hy (by rw [negs_len, hlen.out]) (by omega) r2).mono ?_); rintro e w3 ⟨b3, rfl, v3, l3, q3⟩; have V3 := Lib.hid v3; clear v3)
  have hs3 : Hid (same b3 (Op.negFloat .f64 b1) = true) := by
    show _ = _
    refine vl_same ?_
    rw [V3.out, vl_neg l1, V1.out, hnl.out, vl_neg hs, turnv_neg]
  have HS3 := Lib.hid (fun W : World => same_any b3 (Op.negFloat .f64 b1) W)
  rw [hs3.out] at HS3
  have r3 := (r1'.qt q3).more (Nat.le_of_eq q3.size.symm)
  clear hs3 V3 r1' r2
  go_wp2_with fail
  ((with_reducible refine (HS3.out _).mono ?_); rintro e w' ⟨rfl, rfl⟩)
  go_wp2_with fail
  ((with_reducible refine (turn_any _ _ l _ _ _ _ _ hs hny hlen.out (by omega) r3).mono ?_); rintro e w4 ⟨b4, rfl, v4, l4, q4⟩; have V4 := Lib.hid v4; clear v4)
  have HS4 := Lib.hid (fun W : World => same_any b4 b1 W)
  rw [vl_same (show vl b4 = vl b1 by rw [V4.out, V1.out, vl_neg hy, turnv_negy])] at HS4
  clear V4 V1
  go_wp2_with fail
  ((with_reducible refine (HS4.out _).mono ?_); rintro e w' ⟨rfl, rfl⟩)
  go_wp2_with fail
  ((with_reducible refine (turn_nil _ _ _ _ _).mono ?_); rintro e w' ⟨rfl, rfl⟩)
  go_wp2
  go_ret
  exact ⟨rfl, ((q1.below _).trans (hbel2.mono (Nat.le_of_eq q1.size.symm))).trans ((q3.trans q4).below _)⟩
end Go.Proofs.Ytelhgahbhbinoaa.LTurnOpposite
