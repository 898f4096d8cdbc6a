/-
  The walk of laws.FnTailsHalf: it returns true, for all numbers.
-/
import Derived.Test.YtmhdjhfkndfhmaaTls
import Derived.Test.YtmhdjhfkndfhmaaMds
import Derived.Test.YtmhdjhfkndfhmaaPth
import Derived.Test.YtmhdjhfkndfhmaaMid
import Derived.Test.YtmhdjhfkndfhmaaLawA
import Derived.Test.YtmhdjhfkndfhmaaFdu
import Derived.Test.YtmhdjhfkndfhmaaSpcD
import Derived.BigQuiet
namespace Go.Proofs.Ytmhdjhfkndfhmaa.LTailsHalf
open Go.RowKit Flt

theorem run_q {op : BinOp} {x y r : Nat} (h : floatBits op .f64 x y = some r) (w : World) : (binOp op 22 (.float .f64 x) (.float .f64 y)).run Try.prog w = .ok (.float .f64 r) w := run_float_arith w op _ .f64 x y r h
def sJ (s : Bool) (n : Nat) : Int := if s then -(n : Int) else (n : Int)
theorem sJ_abs (s : Bool) (n : Nat) : (sJ s n).natAbs = n := by unfold sJ; cases s <;> simp
theorem sJ_mul (s : Bool) (n m : Nat) : sJ s (n * m) = sJ s n * (m : Int) := by unfold sJ; cases s <;> simp [Int.neg_mul]
theorem rnd_scale (T : Int) (k j : Nat) : rnd (T * ((2 ^ j : Nat) : Int)) (k + j) = rnd T k := by
  have h1 : (T * ((2 ^ j : Nat) : Int)).natAbs = T.natAbs * 2 ^ j := by rw [Int.natAbs_mul, Int.natAbs_natCast]
  have hp := pow_pos j
  have hn : T * ((2 ^ j : Nat) : Int) < 0 ↔ T < 0 := by
    constructor
    · intro g
      rcases Int.lt_or_le T 0 with g2 | g2
      · exact g2
      · have := Int.mul_nonneg g2 (show (0 : Int) ≤ ((2 ^ j : Nat) : Int) by omega); omega
    · intro g; exact Int.mul_neg_of_neg_of_pos g (by omega)
  unfold rnd
  rw [h1, ru_scale]
  by_cases h : T < 0
  · rw [decide_eq_true h, decide_eq_true (hn.2 h), if_pos h, if_pos (hn.2 h)]
  · rw [decide_eq_false h, decide_eq_false (fun x => h (hn.1 x)), if_neg h, if_neg (fun x => h (hn.1 x))]
theorem rnd_U (T : Int) : rnd (T * (U : Int)) e0 = rnd T 0 := by
  have := rnd_scale T 0 e0
  rw [Nat.zero_add] at this
  exact this
/-- the form of a number that is not small -/
theorem form {r : Nat} (h : Mds r) : ∃ m t, rv r = m * 2 ^ t ∧ m < 2 ^ 53 ∧ 921 ≤ t ∧ 0 < m := by
  obtain ⟨m, t, e, hm, _⟩ := rv_form r
  obtain ⟨E, hE⟩ : ∃ E, E = 922 := ⟨_, rfl⟩
  have h1 : 2 ^ (51 + E) ≤ rv r := by
    rw [← rv_pow E (by omega)]
    exact rv_le (by rw [hE]; exact h.1)
  have h0 : 0 < m := by
    rcases Nat.eq_zero_or_pos m with g | g
    · rw [e, g, Nat.zero_mul] at h1
      have := pow_pos (51 + E)
      omega
    · exact g
  refine ⟨m, t, e, hm, ?_, h0⟩
  have h2 : 2 ^ (51 + E) < 2 ^ (53 + t) := by
    rw [e] at h1
    refine Nat.lt_of_le_of_lt h1 ?_
    rw [Nat.pow_add 2 53]
    exact Nat.mul_lt_mul_of_pos_right hm (pow_pos t)
  have := lt_of_pow_lt h2
  omega
theorem upper {r : Nat} (h : Mds r) {E : Nat} (hE : E = 1124) : rv r ≤ 2 ^ (51 + E) := by
  rw [← rv_pow E (by omega)]
  exact rv_le (by rw [hE]; exact h.2)
/-- the product in units, and its rung -/
structure Pr (x y n j r : Nat) : Prop where
  le : n ≤ 2 ^ 106
  val : fv x * fv y = sJ (sg x ^^ sg y) (n * 2 ^ j) * (U : Int)
  rung : r = ru (n * 2 ^ j) 0
  pos : 0 < r
  top : r + 1 < INF
theorem product {x y : Nat} (hx : Mds (rg x)) (hy : Mds (rg y)) : ∃ n j r, Pr x y n j r := by
  have he := e0_eq
  have hI := INF_val
  obtain ⟨m1, t1, e1, l1, g1, p1⟩ := form hx
  obtain ⟨m2, t2, e2, l2, g2, p2⟩ := form hy
  obtain ⟨E, hE⟩ : ∃ E, E = 1124 := ⟨_, rfl⟩
  have u1 := upper hx hE
  have u2 := upper hy hE
  have hprod : rv (rg x) * rv (rg y) = m1 * m2 * 2 ^ (t1 + t2 - e0) * U := by
    rw [e1, e2, U_eq, Nat.mul_assoc (m1 * m2), ← Nat.pow_add, show t1 + t2 - e0 + e0 = t1 + t2 by omega, Nat.pow_add]
    rw [Nat.mul_assoc, Nat.mul_assoc, Nat.mul_left_comm (2 ^ t1)]
  have hN : m1 * m2 * 2 ^ (t1 + t2 - e0) ≤ 2 ^ (51 + (51 + E + E - e0)) := by
    have h1 : rv (rg x) * rv (rg y) ≤ 2 ^ (51 + E) * 2 ^ (51 + E) := Nat.mul_le_mul u1 u2
    rw [hprod, ← Nat.pow_add, U_eq, show 51 + E + (51 + E) = 51 + (51 + E + E - e0) + e0 by omega, Nat.pow_add _ _ e0] at h1
    exact Nat.le_of_mul_le_mul_right h1 (pow_pos e0)
  have hpos : 0 < m1 * m2 * 2 ^ (t1 + t2 - e0) := Nat.mul_pos (Nat.mul_pos p1 p2) (pow_pos _)
  have hle : m1 * m2 ≤ 2 ^ 106 := by
    have : m1 * m2 ≤ 2 ^ 53 * 2 ^ 53 := Nat.mul_le_mul (Nat.le_of_lt l1) (Nat.le_of_lt l2)
    rw [← Nat.pow_add] at this
    exact this
  refine ⟨m1 * m2, t1 + t2 - e0, _, hle, ?_, rfl, ?_, ?_⟩
  · rw [fv_mul, hprod]
    unfold sJ
    cases (sg x ^^ sg y)
    · simp only [Bool.false_eq_true, if_false, Int.natCast_mul]
    · simp only [if_true, Int.natCast_mul, Int.neg_mul]
  · have h1 := ru_mono (k := 0) (show 1 ≤ m1 * m2 * 2 ^ (t1 + t2 - e0) from hpos)
    have h2 : ru 1 0 = 1 := wd_small (by decide)
    omega
  · have h1 := ru_mono (k := 0) hN
    have h2 : ru (2 ^ (51 + (51 + E + E - e0))) 0 = (51 + E + E - e0) * 2 ^ 52 := wd_pow _ (by omega)
    rw [h2] at h1
    have h3 : (51 + E + E - e0) * 2 ^ 52 + 1 < INF := by rw [hE, he]; decide
    exact Nat.lt_of_le_of_lt (Nat.succ_le_succ h1) h3
theorem vl_num_fin {r : Nat} {V : Int} (h : vl r = .num V) : rg r < INF ∧ fv r = V := by
  rcases vl_cases r with ⟨_, e⟩ | ⟨_, e⟩ | ⟨h1, e⟩
  · rw [e] at h; cases h
  · rw [e] at h; cases h
  · rw [e] at h; injection h with h; exact ⟨h1, h⟩
theorem abs_fin' {x : Nat} (hf : rg x < INF) : rg (absW x) < INF ∧ fv (absW x) = (rv (rg x) : Int) := by
  unfold absW
  by_cases h : key x < 0
  · rw [if_pos h, mk_false]
    have hl := rg_lt x
    have e1 : rg (rg x) = rg x := rg_self hl
    have e2 : sg (rg x) = false := by have := sg_mk false hl; rwa [mk_false] at this
    refine ⟨by rw [e1]; exact hf, ?_⟩
    unfold fv; rw [e1, e2]; rfl
  · rw [if_neg h]
    refine ⟨hf, ?_⟩
    unfold key at h
    unfold fv
    cases hs : sg x
    · rfl
    · rw [hs] at h
      simp only [if_true] at h ⊢
      have : rg x = 0 := by omega
      rw [this, rv_zero]; rfl
theorem quo_zero {x : Nat} (h0 : rg x ≠ 0) (hf : rg x < INF) : floatBits .quo .f64 x 0 = some (mk (sg x) INF) := by
  show Ieee.double.div x 0 = _
  obtain ⟨m, e, hr, hm, _, _⟩ := read_fin hf
  have hz : Ieee.double.read 0 = .number false 0 (-1074) := by rfl
  have hm0 : m ≠ 0 := by
    rintro rfl
    rw [Nat.zero_mul] at hm
    have := rv_pos (r := rg x) (by omega)
    omega
  unfold Ieee.Format.div
  rw [hr, hz]
  simp only [Ieee.Datum.quotient]
  rw [if_pos trivial, if_neg hm0, Bool.xor_false]
  cases sg x <;> rfl
theorem out_next {b : Nat} (hb : b < 2 ^ 64) (h0 : 0 < rg b) (h1 : rg b + 1 < INF) : nxt b (mk (sg b) INF) = mk (sg b) (rg b + 1) := by
  have hI := INF_val
  have hl := INF_lt
  have hk : key (mk (sg b) INF) = if sg b then -(INF : Int) else (INF : Int) := key_mk _ hl
  have hkb : key b = if sg b then -(rg b : Int) else (rg b : Int) := rfl
  have hn : nan (mk (sg b) INF) = false := nan_false.2 (by rw [rg_mk _ hl]; exact Nat.le_refl _)
  refine nxt_up hb (nan_false.2 (by omega)) hn ?_ ?_ ?_
  all_goals
    rw [hkb]
    try rw [hk]
    cases sg b <;> simp <;> omega

/-- all that the law asks of the words -/
structure Hf (b t I m2 g : Nat) : Prop where
  inf : floatBits .quo .f64 b 0 = some I
  ilt : I < 2 ^ 64
  nb : nan b = false
  nt : nan t = false
  nq : nan (nxt b I) = false
  mul : floatBits .mul .f64 4611686018427387904 (absW t) = some m2
  sub : floatBits .sub .f64 (absW (nxt b I)) (absW b) = some g
  le : (FloatKind.f64.format.order m2 g == some .lt || FloatKind.f64.format.order m2 g == some .eq) = true
  ne : (FloatKind.f64.format.order b 0 != some .eq) = true
theorem vl_two : vl 4611686018427387904 = .num (2 * (U : Int)) := by
  obtain ⟨E, hE⟩ : ∃ E, E = 1024 := ⟨_, rfl⟩
  have he := e0_eq
  have e : (4611686018427387904 : Nat) = 1024 * 2 ^ 52 := by decide
  rw [e, ← hE, vl_fin (rg_pow_lt (by omega)), fv_pow (by omega) (by omega), show 51 + E = 1 + e0 by omega, U_eq, Nat.pow_add, Int.natCast_mul]; rfl
theorem some_of_ov {o : Option Nat} {V : Int} (h : ov o = .num V) : ∃ r, o = some r ∧ vl r = .num V := by
  cases o with
  | none => cases h
  | some r => exact ⟨r, rfl, h⟩
theorem law {x y b t : Nat} (hx : Mds (rg x)) (hy : Mds (rg y)) (hbl : b < 2 ^ 64) (hb : vl b = mulv (vl x) (vl y)) (ht : vl t = fmv (vl x) (vl y) (negv (mulv (vl x) (vl y)))) : ∃ I m2 g, Hf b t I m2 g := by
  have hI := INF_val
  have fx : rg x < INF := by have := hx.2; omega
  have fy : rg y < INF := by have := hy.2; omega
  obtain ⟨n, j, r, hP⟩ := product hx hy
  obtain ⟨c, c1, c2, c3⟩ := prod_err (j := j) hP.le
  rw [← hP.rung] at c1 c3
  have hr0 := hP.pos
  have hr1 := hP.top
  -- the product
  have hN0 : 0 < n * 2 ^ j := by
    rcases Nat.eq_zero_or_pos (n * 2 ^ j) with g | g
    · have := hP.rung; rw [g, ru_zero] at this; omega
    · exact g
  have hmul : mulv (vl x) (vl y) = .num (sJ (sg x ^^ sg y) (rv r)) := by
    rw [vl_fin fx, vl_fin fy]
    show rnd (fv x * fv y) e0 = _
    rw [hP.val, rnd_U]
    unfold rnd
    rw [sJ_abs, ← hP.rung, if_neg (by omega)]
    unfold sJ
    cases (sg x ^^ sg y)
    · simp only [Bool.false_eq_true, if_false]; rw [if_neg (by omega)]
    · simp only [if_true]; rw [if_pos (by omega)]
  rw [hmul] at hb ht
  obtain ⟨f1, f2⟩ := vl_num_fin hb
  have hrb : rg b = r := rv_inj (by rw [← fv_natAbs, f2, sJ_abs])
  -- what is lost
  have hd : Fits (c.natAbs * 2 ^ j) := ⟨rep_of j c2, by have := rv_lt_TOP hr1; omega⟩
  have hd2 : Fits (2 * (c.natAbs * 2 ^ j)) := ⟨by
      have := rep_of (j + 1) c2
      rw [Nat.pow_succ, ← Nat.mul_assoc, Nat.mul_comm] at this
      exact this, by have := rv_lt_TOP hr1; omega⟩
  have hc : c.natAbs * 2 ^ j = (((n * 2 ^ j : Nat) : Int) - (rv r : Int)).natAbs := by rw [c1, Int.natAbs_mul, Int.natAbs_natCast]
  have hsj : (sJ (sg x ^^ sg y) (n * 2 ^ j) - sJ (sg x ^^ sg y) (rv r)).natAbs = c.natAbs * 2 ^ j := by
    rw [hc]
    unfold sJ
    generalize n * 2 ^ j = p
    cases (sg x ^^ sg y)
    · simp only [Bool.false_eq_true, if_false]
    · simp only [if_true]; omega
  have hD : ∃ D : Int, vl t = .num D ∧ D.natAbs = c.natAbs * 2 ^ j := by
    refine ⟨sJ (sg x ^^ sg y) (n * 2 ^ j) - sJ (sg x ^^ sg y) (rv r), ?_, ?_⟩
    · rw [ht, vl_fin fx, vl_fin fy]
      show rnd (fv x * fv y + -sJ (sg x ^^ sg y) (rv r) * (U : Int)) e0 = _
      rw [hP.val, ← Int.add_mul, ← Int.sub_eq_add_neg, rnd_U]
      exact rnd_num0 (by rw [hsj]; exact hd)
    · exact hsj
  obtain ⟨D, hvt, hDa⟩ := hD
  obtain ⟨f3, f4⟩ := vl_num_fin hvt
  have hrt : rv (rg t) = c.natAbs * 2 ^ j := by rw [← fv_natAbs, f4, hDa]
  -- the path
  have hb0 : rg b ≠ 0 := by omega
  have hnx := out_next hbl (by omega) (by omega)
  have hqg : rg (mk (sg b) (rg b + 1)) = rg b + 1 := rg_mk _ (by have := INF_lt; omega)
  obtain ⟨a1, a2⟩ := abs_fin' f3
  obtain ⟨a3, a4⟩ := abs_fin' f1
  obtain ⟨a5, a6⟩ := abs_fin' (x := mk (sg b) (rg b + 1)) (by rw [hqg]; omega)
  rw [hqg] at a6
  rw [hrt] at a2
  rw [hrb] at a4
  have a7 : (rv (rg b + 1) : Int) = (rv (r + 1) : Int) := by rw [hrb]
  rw [a7] at a6
  have hgap := rv_gap r
  have hgF : Fits (2 ^ (r / 2 ^ 52 - 1)) := ⟨rep_pow _, by have := rv_lt_TOP hr1; omega⟩
  have hm := ov_mul 4611686018427387904 (absW t)
  rw [vl_two, vl_fin a1, a2] at hm
  have hm3 : mulv (.num (2 * (U : Int))) (.num ((c.natAbs * 2 ^ j : Nat) : Int)) = .num ((2 * (c.natAbs * 2 ^ j) : Nat) : Int) := by
    show rnd (2 * (U : Int) * ((c.natAbs * 2 ^ j : Nat) : Int)) e0 = _
    have e : 2 * (U : Int) * ((c.natAbs * 2 ^ j : Nat) : Int) = ((2 * (c.natAbs * 2 ^ j) : Nat) : Int) * (U : Int) := by
      rw [Int.natCast_mul 2, Int.mul_assoc, Int.mul_assoc, Int.mul_comm (U : Int)]; rfl
    rw [e, rnd_U]
    exact rnd_num0 (by rw [Int.natAbs_natCast]; exact hd2)
  rw [hm3] at hm
  obtain ⟨m2, hm2, vm2⟩ := some_of_ov hm
  obtain ⟨f5, f6⟩ := vl_num_fin vm2
  have hsub := sub_fin a5 a3
  have hvs := vl_rs (sg (absW (mk (sg b) (rg b + 1))) && !sg (absW b)) (fv (absW (mk (sg b) (rg b + 1))) - fv (absW b)) 0
  have hT : fv (absW (mk (sg b) (rg b + 1))) - fv (absW b) = ((2 ^ (r / 2 ^ 52 - 1) : Nat) : Int) := by rw [a6, a4, hgap]; omega
  rw [hT] at hsub hvs
  rw [rnd_num0 (by rw [Int.natAbs_natCast]; exact hgF)] at hvs
  generalize rs (sg (absW (mk (sg b) (rg b + 1))) && !sg (absW b)) ((2 ^ (r / 2 ^ 52 - 1) : Nat) : Int) 0 = gw at *
  obtain ⟨f7, f8⟩ := vl_num_fin hvs
  refine ⟨_, m2, gw, quo_zero hb0 f1, mk_lt _ INF_lt, nan_false.2 (by omega), nan_false.2 (by omega), ?_, hm2, ?_, ?_, ?_⟩
  · rw [hnx]; exact nan_false.2 (by rw [hqg]; omega)
  · rw [hnx]; exact hsub
  · rw [c_le (Nat.le_of_lt f5) (Nat.le_of_lt f7), decide_eq_true]
    rw [← fv_le_iff, f6, f8]
    exact Int.ofNat_le.2 (Nat.le_trans c3 (by rw [hgap, Nat.add_sub_cancel_left]; exact Nat.le_refl _))
  · have hk : key b ≠ 0 := by have := key_natAbs b; omega
    rw [c_ne (by omega) rg_zero_le, key_zero, decide_eq_true hk]
theorem len_of {L : List Nat} {x : Val} {l : List Nat} {n : Nat} (h : L.map vl = tlL x (l.map vl)) (hl : l.length = n) : L.length = n := by
  have := congrArg List.length h
  rwa [List.length_map, tlL_len, List.length_map, hl] at this
theorem rd_len {w : World} {base : Nat} {e : TypeId} {A : Option Addr} {c N : Nat} {xs : List Value} (hl : xs.length = N) (h : w.ownsRow base e 1 (.slice A N c) N xs) : Rd w w.heap.size A xs := by
  subst hl; exact Rd.of_own h

set_option maxRecDepth 100000 in
set_option maxHeartbeats 3200000 in
theorem walk (w : World) (x : Nat) (hx : x < 2 ^ 64) (y : Nat) (hy : y < 2 ^ 64) :
    Calls Try.prog 11 #[.float .f64 x, .float .f64 y] w fun e w' => e = .returned (.bool true) ∧ Below w.heap.size w w' := by
  have hlaw := Lib.hid (fun b t h1 h2 => @law x y b t h1 h2)
  have r0 : Rd (w.alloc (.cells #[.float .f64 x, .float .f64 y] 22)) (w.alloc (.cells #[.float .f64 x, .float .f64 y] 22)).heap.size (some ⟨w.heap.size, 0, none⟩) (fl [x, y]) :=
    Rd.of_own (base := w.heap.size) (e := 22) (c := 2) (World.ownsRow_lit w #[.float .f64 x, .float .f64 y] 2 (Nat.le_refl _) (by decide) rfl)
  have HMd := Lib.hid (middles_any [x, y] (some ⟨w.heap.size, 0, none⟩) 2 2 _ _ rfl (fun b hb => by
    rcases List.mem_cons.1 hb with rfl | hb
    · exact hx
    · rw [List.mem_singleton.1 hb]; exact hy) (by decide) r0)
  have hb0 : Below w.heap.size w (w.alloc (.cells #[.float .f64 x, .float .f64 y] 22)) := (Below.refl _ _).alloc (Nat.le_refl _) _
  clear r0
  go_enter Try.func11, Try.ntmps11
  go_wp2_with fail
  ((with_reducible refine HMd.out.mono ?_); rintro e w1 ⟨⟨p, rfl, hp⟩, q1⟩)
  have HB1 := hb0.trans (q1.below _)
  clear HMd hb0
  cases p
  · clear hp hlaw
    go_wp2
    go_ret
    exact ⟨rfl, HB1⟩
  · have hpp := hp rfl
    have hmx := hpp x (by simp)
    have hmy := hpp y (by simp)
    clear hp hpp q1
    have r1 : Rd (w1.alloc (.cells #[.float .f64 y] 22)) (w1.alloc (.cells #[.float .f64 y] 22)).heap.size (some ⟨w1.heap.size, 0, none⟩) (fl [y]) :=
      Rd.of_own (base := w1.heap.size) (e := 22) (c := 1) (World.ownsRow_lit w1 #[.float .f64 y] 1 (Nat.le_refl _) (by decide) rfl)
    have HT := Lib.hid (tails_any x [y] (some ⟨w1.heap.size, 0, none⟩) 1 1 _ _ hx rfl (by decide) (Nat.le_refl _) r1)
    have HB2 : Below w.heap.size w (w1.alloc (.cells #[.float .f64 y] 22)) := HB1.alloc HB1.size _
    clear r1 HB1
    go_wp2_with fail
    ((with_reducible refine HT.out.mono ?_); rintro e w2 ⟨b, L, A4, c4, rfl, v1, l1, t1, d1, o4, be1⟩)
    have N1 := len_of t1 rfl
    rw [show [y].length = 1 from rfl] at N1
    rw [N1] at o4 ⊢
    have r4 := rd_len (by rw [fl_len, N1]) o4
    obtain ⟨t, rfl⟩ : ∃ t, L = [t] := by
      match L, N1 with
      | [t], _ => exact ⟨t, rfl⟩
    have vt : vl t = fmv (vl x) (vl y) (negv (mulv (vl x) (vl y))) := by
      have := t1
      simp only [List.map_cons, List.map_nil] at this
      injection this
    obtain ⟨I, m2, g, hH⟩ := hlaw.out b t hmx hmy l1 v1 vt
    have HB3 := HB2.trans (be1.mono HB2.size)
    have tl := d1 t (by simp)
    have hquo := run_q hH.inf
    have hmul := run_q hH.mul
    have hsub := run_q hH.sub
    have tle := hH.le
    have tne := hH.ne
    have HP := Lib.hid (fun W : World => path_any b I 1 W l1 hH.ilt)
    rw [show ((1 : Int) % 200).toNat = 1 by decide] at HP
    have HA1 := Lib.hid (fun W : World => specAbs_any t W tl hH.nt)
    have HA2 := Lib.hid (fun W : World => specAbs_any (nxt b I) W (nxt_lt l1) hH.nq)
    have HA3 := Lib.hid (fun W : World => specAbs_any b W l1 hH.nb)
    have hpw : Hid (pathV I b 1 = fl [b, nxt b I]) := rfl
    rw [hpw.out] at HP
    clear hlaw hH HT v1 t1 d1 o4 be1 N1 vt HB2 hpw hmx hmy
    generalize nxt b I = q at *
    generalize absW t = at' at *
    generalize absW q = aq at *
    generalize absW b = ab at *
    go_wp2_with fail
    ((with_reducible refine (HP.out _).mono ?_); rintro e w3 ⟨A5, c5, rfl, _, o5, be5⟩)
    have r5 := Rd.of_own o5
    have r4 := r4.below be5
    have HB4 := HB3.trans (be5.mono HB3.size)
    rw [show (fl [b, q]).length = 2 from rfl]
    obtain ⟨ad1, e1, _, c1⟩ := r4.fl (k := 0) (Nat.succ_pos 0)
    obtain ⟨ad2, e2, _, c2⟩ := r5.fl (k := 1) (Nat.lt_succ_self 1)
    cases e1; cases e2
    rw [show ([t] : List Nat).getD 0 0 = t from rfl] at c1
    rw [show ([b, q] : List Nat).getD 1 0 = q from rfl] at c2
    simp [Addr.add] at c1 c2
    clear o5 be5 r5 r4 HP HB3
    go_wp2_with fail
    go_quiet ((go_at_call 15; first | exact quiet_w (HA1.out _) | exact quiet_w (HA2.out _) | exact quiet_w (HA3.out _)))
    go_wp2
    go_ret
    exact ⟨rfl, HB4.trans ((Qt.drewN (Qt.refl _) _).below _)⟩
end Go.Proofs.Ytmhdjhfkndfhmaa.LTailsHalf
