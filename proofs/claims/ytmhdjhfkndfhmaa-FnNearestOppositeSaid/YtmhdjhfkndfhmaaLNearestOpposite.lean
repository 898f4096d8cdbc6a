/-
  The walk of laws.FnNearestOpposite: it returns true, for all numbers.
-/
import Derived.Test.YtmhdjhfkndfhmaaEuc
import Derived.Test.YtmhdjhfkndfhmaaNea
import Derived.Test.YtmhdjhfkndfhmaaEul
import Derived.Test.YtmhdjhfkndfhmaaNeg
import Derived.Test.YtmhdjhfkndfhmaaRow
namespace Go.Proofs.Ytmhdjhfkndfhmaa.LNearestOpposite
open Go.RowKit Flt

theorem alls_vl {xs ys : List Nat} (h : xs.map vl = ys.map vl) : Alls xs ys := by
  have hl : xs.length = ys.length := by have := congrArg List.length h; rwa [List.length_map, List.length_map] at this
  refine ⟨hl, fun k hk => vl_same ?_⟩
  have h1 := congrArg (fun l : List Val => l[k]?) h
  simp only [List.getElem?_map] at h1
  rw [List.getElem?_eq_getElem hk, List.getElem?_eq_getElem (show k < ys.length by omega)] at h1
  rw [List.getD_eq_getElem?_getD, List.getD_eq_getElem?_getD, List.getElem?_eq_getElem hk, List.getElem?_eq_getElem (show k < ys.length by omega)]
  exact Option.some.inj h1

theorem neg_num (v : Int) : negv (.num v) = .num (-v) := rfl
theorem modv_neg (a b : Val) : modv (negv a) (negv b) = negv (modv a b) := by
  cases a with
  | nan => rfl
  | inf s => rfl
  | num u => cases b with
    | nan => rfl
    | inf s => rfl
    | num v =>
      show (if -v = 0 then Val.nan else .num ((-u).tmod (-v))) = negv (if v = 0 then .nan else .num (u.tmod v))
      by_cases h : v = 0
      · rw [if_pos h, if_pos (by omega)]; rfl
      · rw [if_neg h, if_neg (by omega), neg_num, Int.tmod_neg, Int.neg_tmod]
theorem remi_neg (u v : Int) : remi (-u) (-v) = -remi u v := by
  unfold remi
  rw [Int.natAbs_neg, Int.natAbs_neg]
  by_cases h0 : u = 0
  · subst h0
    rw [if_neg (by omega), if_neg (by omega), Int.natAbs_zero, remN_zero]; rfl
  · by_cases h : u < 0
    · rw [if_neg (by omega), if_pos h, Int.neg_neg]
    · rw [if_pos (by omega), if_neg h]
theorem remv_neg (a b : Val) : remv (negv a) (negv b) = negv (remv a b) := by
  cases a with
  | nan => rfl
  | inf s => rfl
  | num u => cases b with
    | nan => rfl
    | inf s => rfl
    | num v =>
      show (if -v = 0 then Val.nan else .num (remi (-u) (-v))) = negv (if v = 0 then .nan else .num (remi u v))
      by_cases h : v = 0
      · rw [if_pos h, if_pos (by omega)]; rfl
      · rw [if_neg h, if_neg (by omega), neg_num, remi_neg]
theorem stopv_neg (b : Val) : stopv (negv b) = stopv b := by
  cases b with
  | nan => rfl
  | inf s => rfl
  | num v => show decide (-v = 0) = decide (v = 0); rw [decide_eq_decide]; omega
theorem chn_neg {f : Val → Val → Val} (hf : ∀ a b, f (negv a) (negv b) = negv (f a b)) : ∀ (k : Nat) (a b : Val), chn f k (negv a) (negv b) = (chn f k a b).map negv := by
  intro k
  induction k with
  | zero => intro a b; rfl
  | succ k ih =>
    intro a b
    show (if stopv (negv b) then [] else f (negv a) (negv b) :: chn f k (negv b) (f (negv a) (negv b))) = (if stopv b then [] else f a b :: chn f k b (f a b)).map negv
    rw [stopv_neg, hf, ih]
    cases stopv b <;> rfl
theorem negs_vl {L : List Nat} (h : ∀ z ∈ L, z < 2 ^ 64) : (negs L).map vl = (L.map vl).map negv := by
  unfold negs
  rw [List.map_map, List.map_map]
  exact List.map_congr_left fun z hz => vl_neg (h z hz)
theorem neg_lt {x : Nat} (h : x < 2 ^ 64) : Op.negFloat .f64 x < 2 ^ 64 := Flt.neg_lt x h

theorem euc_neg {x y : Nat} (hx : x < 2 ^ 64) (hy : y < 2 ^ 64) : Alls (eucW (Op.negFloat .f64 x) (Op.negFloat .f64 y)) (negs (eucW x y)) := by
  apply alls_vl
  have hw : ∀ z ∈ eucW x y, z < 2 ^ 64 := by
    intro z hz
    rcases List.mem_cons.1 hz with rfl | hz
    · exact hx
    rcases List.mem_cons.1 hz with rfl | hz
    · exact hy
    exact chw_words modW_w' 198 x y hx hy z hz
  rw [negs_vl hw]
  show vl _ :: vl _ :: (chw modW 198 _ _).map vl = negv (vl x) :: negv (vl y) :: ((chw modW 198 x y).map vl).map negv
  rw [chw_vl modW_w' (fun a b ha => vl_modW a b ha) 198 x y hx hy, chw_vl modW_w' (fun a b ha => vl_modW a b ha) 198 _ _ (neg_lt hx) (neg_lt hy), vl_neg hx, vl_neg hy, chn_neg modv_neg]
theorem nea_neg {x y : Nat} (hx : x < 2 ^ 64) (hy : y < 2 ^ 64) : Alls (neaW (Op.negFloat .f64 x) (Op.negFloat .f64 y)) (negs (neaW x y)) := by
  apply alls_vl
  have hw : ∀ z ∈ neaW x y, z < 2 ^ 64 := by
    intro z hz
    rcases List.mem_cons.1 hz with rfl | hz
    · exact hx
    rcases List.mem_cons.1 hz with rfl | hz
    · exact hy
    exact chw_words remW_w' 198 x y hx hy z hz
  rw [negs_vl hw]
  show vl _ :: vl _ :: (chw remW 198 _ _).map vl = negv (vl x) :: negv (vl y) :: ((chw remW 198 x y).map vl).map negv
  rw [chw_vl remW_w' (fun a b _ => vl_remW a b) 198 x y hx hy, chw_vl remW_w' (fun a b _ => vl_remW a b) 198 _ _ (neg_lt hx) (neg_lt hy), vl_neg hx, vl_neg hy, chn_neg remv_neg]
theorem chw2_len (f : Nat → Nat → Nat) (x y : Nat) : 2 ≤ (x :: y :: chw f 198 x y).length ∧ (x :: y :: chw f 198 x y).length ≤ 200 := by
  have h := chw_len f 198 x y
  simp only [List.length_cons]
  omega

set_option maxRecDepth 100000 in
set_option maxHeartbeats 3200000 in
theorem walk (w : World) (x : Nat) (hx : x < 2 ^ 64) (y : Nat) (hy : y < 2 ^ 64) :
    Calls Try.prog 8 #[.float .f64 x, .float .f64 y] w fun e w' => e = .returned (.bool true) ∧ Below w.heap.size w w' := by
  have HE := Lib.hid (fun W : World => euclid_any x y W hx hy)
  have HN := Lib.hid (fun W : World => nearest_any x y W hx hy)
  have hng := neg_word
  have hx' := neg_lt hx
  have hy' := neg_lt hy
  have AE := Lib.hid (euc_neg hx hy)
  have AN := Lib.hid (nea_neg hx hy)
  have HE2 := Lib.hid (fun W : World => euclid_any (Op.negFloat .f64 x) (Op.negFloat .f64 y) W hx' hy')
  have HN2 := Lib.hid (fun W : World => nearest_any (Op.negFloat .f64 x) (Op.negFloat .f64 y) W hx' hy')
  obtain ⟨l1, l2⟩ : 2 ≤ (eucW x y).length ∧ (eucW x y).length ≤ 200 := chw2_len modW x y
  obtain ⟨l3, l4⟩ : 2 ≤ (neaW x y).length ∧ (neaW x y).length ≤ 200 := chw2_len remW x y
  obtain ⟨_, l5⟩ : 2 ≤ (eucW (Op.negFloat .f64 x) (Op.negFloat .f64 y)).length ∧ (eucW (Op.negFloat .f64 x) (Op.negFloat .f64 y)).length ≤ 200 := chw2_len modW _ _
  obtain ⟨_, l6⟩ : 2 ≤ (neaW (Op.negFloat .f64 x) (Op.negFloat .f64 y)).length ∧ (neaW (Op.negFloat .f64 x) (Op.negFloat .f64 y)).length ≤ 200 := chw2_len remW _ _
  generalize eucW x y = L at *
  generalize neaW x y = M at *
  generalize eucW (Op.negFloat .f64 x) (Op.negFloat .f64 y) = L' at *
  generalize neaW (Op.negFloat .f64 x) (Op.negFloat .f64 y) = M' at *
  clear hx hy hx' hy'
  go_enter Try.func8, Try.ntmps8
  go_wp2_with fail
  ((with_reducible refine (HE.out _).mono ?_); rintro e w1 ⟨A1, c1, rfl, _, hown1, hbel1⟩)
  have hr1 := Lib.hid (Rd.of_own hown1)
  rw [fl_len]
  clear hown1
  go_wp2_with fail
  ((with_reducible refine (HN.out _).mono ?_); rintro e w2 ⟨A2, c2, rfl, _, hown2, hbel2⟩)
  have hr2 := Lib.hid (Rd.of_own hown2)
  have hr1 := Lib.hid ((hr1.out.below hbel2).more hbel2.size)
  rw [fl_len]
  clear hown2
  have HB := Lib.hid (hbel1.trans (hbel2.mono hbel1.size))
  have hs2 := hbel2.size
  clear hbel1 hbel2
  generalize hLn : L.length = ln at *
  generalize hMn : M.length = mn at *
  go_wp2_with fail
  ((with_reducible refine (HE2.out _).mono ?_); rintro e w3 ⟨A3, c3, rfl, _, hown3, hbel3⟩)
  have hr3 := Lib.hid (Rd.of_own hown3)
  have hr1 := Lib.hid ((hr1.out.below hbel3).more hbel3.size)
  have hr2 := Lib.hid ((hr2.out.below hbel3).more hbel3.size)
  have HB := Lib.hid (HB.out.trans (hbel3.mono HB.out.size))
  rw [fl_len]
  clear hown3
  go_wp2_with fail
  ((with_reducible refine (negated_any L A1 c1 ln w3.heap.size w3 hLn (by omega) (Nat.le_refl _) hr1.out).mono ?_); rintro e w4 ⟨A4, c4, rfl, _, hown4, hbel4⟩)
  have hr4 := Lib.hid (Rd.of_own hown4)
  have hr2 := Lib.hid ((hr2.out.below hbel4).more hbel4.size)
  have hr3 := Lib.hid ((hr3.out.below hbel4).more hbel4.size)
  have HB := Lib.hid (HB.out.trans (hbel4.mono HB.out.size))
  rw [fl_len]
  clear hown4
  go_wp2_with fail
  ((with_reducible refine (sameAll_any L' (negs L) A3 A4 c3 c4 L'.length (negs L).length w4.heap.size w4 rfl rfl (by omega) hr3.out hr4.out AE.out).mono ?_); rintro e w5 ⟨rfl, q5⟩)
  have hr2 := Lib.hid (hr2.out.qt q5)
  have HB := Lib.hid (HB.out.trans (q5.below _))
  have hs5 : w4.heap.size = w5.heap.size := q5.size.symm
  rw [hs5] at hr2
  go_wp2_with fail
  ((with_reducible refine (HN2.out _).mono ?_); rintro e w6 ⟨A6, c6, rfl, _, hown6, hbel6⟩)
  have hr6 := Lib.hid (Rd.of_own hown6)
  have hr2 := Lib.hid ((hr2.out.below hbel6).more hbel6.size)
  have HB := Lib.hid (HB.out.trans (hbel6.mono HB.out.size))
  rw [fl_len]
  clear hown6
  go_wp2_with fail
  ((with_reducible refine (negated_any M A2 c2 mn w6.heap.size w6 hMn (by omega) (Nat.le_refl _) hr2.out).mono ?_); rintro e w7 ⟨A7, c7, rfl, _, hown7, hbel7⟩)
  have hr7 := Lib.hid (Rd.of_own hown7)
  have hr6 := Lib.hid ((hr6.out.below hbel7).more hbel7.size)
  have HB := Lib.hid (HB.out.trans (hbel7.mono HB.out.size))
  rw [fl_len]
  clear hown7
  go_wp2_with fail
  ((with_reducible refine (sameAll_any M' (negs M) A6 A7 c6 c7 M'.length (negs M).length w7.heap.size w7 rfl rfl (by omega) hr6.out hr7.out AN.out).mono ?_); rintro e w8 ⟨rfl, q8⟩)
  have HB := Lib.hid (HB.out.trans (q8.below _))
  go_wp2
  go_ret
  exact ⟨rfl, HB.out⟩
end Go.Proofs.Ytmhdjhfkndfhmaa.LNearestOpposite
