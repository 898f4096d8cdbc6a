/-
  The walk of laws.FnDotOpposite: it returns true, for every start and all lists.
-/
import Derived.Test.YtbhallblmphlmaaHor
import Derived.Test.YtbhallblmphlmaaNeg
import Derived.Test.YtbhallblmphlmaaLawA
import Derived.Test.YtbhallblmphlmaaRow
namespace Go.Proofs.Ytbhallblmphlmaa.LDotOpposite
open Go.RowKit Flt

theorem fmv_neg2 (a b c : Val) : fmv (negv a) (negv b) c = fmv a b c := by
  have h := fmv_neg a (negv b) (negv c)
  rw [negv_negv] at h
  rw [h, fmv_comm a (negv b), fmv_neg, negv_negv, fmv_comm]
theorem dot_neg1 : ∀ (l m : List Val) (s : Val), dotv (negv s) ((l.map negv).zip m) = negv (dotv s (l.zip m)) := by
  intro l
  induction l with
  | nil => intro m s; rfl
  | cons a l ih =>
    intro m s
    cases m with
    | nil => rfl
    | cons b m =>
      show dotv (fmv (negv a) b (negv s)) ((l.map negv).zip m) = negv (dotv (fmv a b s) (l.zip m))
      rw [fmv_neg, ih]
theorem dot_neg2 : ∀ (l m : List Val) (s : Val), dotv s ((l.map negv).zip (m.map negv)) = dotv s (l.zip m) := by
  intro l
  induction l with
  | nil => intro m s; rfl
  | cons a l ih =>
    intro m s
    cases m with
    | nil => rfl
    | cons b m =>
      show dotv (fmv (negv a) (negv b) s) ((l.map negv).zip (m.map negv)) = dotv (fmv a b s) (l.zip m)
      rw [fmv_neg2, ih]
theorem vl_negs {l : List Nat} (h : ∀ b ∈ l, b < 2 ^ 64) : (negs l).map vl = (l.map vl).map negv := by
  unfold negs
  rw [List.map_map, List.map_map]
  refine List.map_congr_left fun b hb => ?_
  exact vl_neg (h b hb)
theorem chain {w w1 w2 w3 w4 w5 w6 : World} (q1 : Qt w w1) (b2 : Below w1.heap.size w1 w2) (q3 : Qt w2 w3) (b4 : Below w3.heap.size w3 w4) (b5 : Below w4.heap.size w4 w5) (q6 : Qt w5 w6) : Below w.heap.size w w6 := by
  have s1 := q1.size; have s2 := b2.size; have s3 := q3.size; have s4 := b4.size
  exact (((((q1.below _).trans (b2.mono (by omega))).trans (q3.below _)).trans (b4.mono (by omega))).trans (b5.mono (by omega))).trans (q6.below _)

set_option maxHeartbeats 1600000 in
theorem walk (w : World) (s : Nat) (hs : s < 2 ^ 64) (A : Option Addr) (n c : Nat) (l : List Nat) (h : FRow w A n c l) (A' : Option Addr) (n' c' : Nat) (l' : List Nat) (h' : FRow w A' n' c' l') :
    Calls Try.prog 10 #[.float .f64 s, .slice A n c, .slice A' n' c'] w fun e' w' => e' = .returned (.bool true) ∧ Below w.heap.size w w' := by
  have hroom := h.room
  have hroom' := h'.room
  have R := Lib.hid h
  have R' := Lib.hid h'
  have hng := neg_word
  have o1 := one_three
  have hns := neg_lt s hs
  have HD := Lib.hid (dotVal_any s l l' A A' c c' n n' w.heap.size w hs h.len h'.len (by omega) (by omega) h.reads h'.reads)
  clear h h'
  go_enter Try.func10, Try.ntmps10
  go_wp2_with fail
  ((with_reducible refine HD.out.mono ?_); rintro e w1 ⟨b1, rfl, v1, l1, q1⟩; have V1 := Lib.hid v1; clear v1 HD)
  have r1 := (R.out.reads.qt q1).more (Nat.le_of_eq q1.size.symm)
  have r1' := (R'.out.reads.qt q1).more (Nat.le_of_eq q1.size.symm)
  have HN := Lib.hid (negated_any l A c n w1.heap.size w1 R.out.len hroom (Nat.le_refl _) r1)
  go_wp2_with fail
  ((with_reducible refine HN.out.mono ?_); rintro e w2 ⟨A2, c2, rfl, hc2, hown2, hbel2⟩)
  have rn2 := Rd.of_own hown2
  have r2 := (r1.below hbel2).more hbel2.size
  have r2' := (r1'.below hbel2).more hbel2.size
  have hl2 : (fl (negs l)).length = n := by rw [fl_len, negs_len, R.out.len]
  rw [hl2]
  have HD2 := Lib.hid (dotVal_any (Op.negFloat .f64 s) (negs l) l' A2 A' c2 c' n n' w2.heap.size w2 hns (by rw [negs_len, R.out.len]) R'.out.len (by omega) (by omega) rn2 r2')
  clear hown2 hc2 hl2 HN r1 r1' rn2
  go_wp2_with fail
  ((with_reducible refine HD2.out.mono ?_); rintro e w3 ⟨b3, rfl, v3, l3, q3⟩; have V3 := Lib.hid v3; clear v3 HD2)
  have HS := Lib.hid (fun W : World => same_any b3 (Op.negFloat .f64 b1) W)
  rw [vl_same (show vl b3 = vl (Op.negFloat .f64 b1) by
    rw [V3.out, vl_neg l1, V1.out, vl_neg hs]
    unfold prs
    rw [vl_negs R.out.words, dot_neg1])] at HS
  have r3 := (r2.qt q3).more (Nat.le_of_eq q3.size.symm)
  have r3' := (r2'.qt q3).more (Nat.le_of_eq q3.size.symm)
  have HN3 := Lib.hid (negated_any l A c n w3.heap.size w3 R.out.len hroom (Nat.le_refl _) r3)
  clear V3 r2 r2'
  go_wp2_with fail
  ((with_reducible refine (HS.out _).mono ?_); rintro e w' ⟨rfl, rfl⟩)
  go_wp2_with fail
  ((with_reducible refine HN3.out.mono ?_); rintro e w4 ⟨A4, c4, rfl, hc4, hown4, hbel4⟩)
  have rn4 := Rd.of_own hown4
  have r4' := (r3'.below hbel4).more hbel4.size
  have hl4 : (fl (negs l)).length = n := by rw [fl_len, negs_len, R.out.len]
  rw [hl4]
  have HN4 := Lib.hid (negated_any l' A' c' n' w4.heap.size w4 R'.out.len hroom' (Nat.le_refl _) r4')
  clear hown4 hc4 hl4 HN3 HS r3 r3'
  go_wp2_with fail
  ((with_reducible refine HN4.out.mono ?_); rintro e w5 ⟨A5, c5, rfl, hc5, hown5, hbel5⟩)
  have rn5 := Rd.of_own hown5
  have rn4' := (rn4.below hbel5).more hbel5.size
  have hl5 : (fl (negs l')).length = n' := by rw [fl_len, negs_len, R'.out.len]
  rw [hl5]
  have HD5 := Lib.hid (dotVal_any s (negs l) (negs l') A4 A5 c4 c5 n n' w5.heap.size w5 hs (by rw [negs_len, R.out.len]) (by rw [negs_len, R'.out.len]) (by omega) (by omega) rn4' rn5)
  clear hown5 hc5 hl5 HN4 rn4 rn4' rn5 r4'
  go_wp2_with fail
  ((with_reducible refine HD5.out.mono ?_); rintro e w6 ⟨b6, rfl, v6, l6, q6⟩; have V6 := Lib.hid v6; clear v6 HD5)
  have HS6 := Lib.hid (fun W : World => same_any b6 b1 W)
  rw [vl_same (show vl b6 = vl b1 by
    rw [V6.out, V1.out]
    unfold prs
    rw [vl_negs R.out.words, vl_negs R'.out.words, dot_neg2])] at HS6
  clear V6 V1
  go_wp2_with fail
  ((with_reducible refine (HS6.out _).mono ?_); rintro e w' ⟨rfl, rfl⟩)
  go_wp2_with fail
  ((with_reducible refine (dotVal_nil _ _ _ _ _ _ _).mono ?_); rintro e w' ⟨rfl, rfl⟩)
  go_wp2
  go_ret
  exact ⟨rfl, chain q1 hbel2 q3 hbel4 hbel5 q6⟩
end Go.Proofs.Ytbhallblmphlmaa.LDotOpposite
