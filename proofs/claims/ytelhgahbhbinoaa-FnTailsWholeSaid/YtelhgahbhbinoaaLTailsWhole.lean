/-
  The walk of laws.FnTailsWhole: it returns true, for all integers.
-/
import Derived.Test.YtelhgahbhbinoaaTls
import Derived.Test.YtelhgahbhbinoaaRed
import Derived.Test.YtelhgahbhbinoaaFvm
import Derived.Test.YtelhgahbhbinoaaMid
import Derived.Test.YtelhgahbhbinoaaLawA
import Derived.Test.YtelhgahbhbinoaaOfi
import Derived.Test.YtelhgahbhbinoaaSpcB
import Derived.BigQuiet
namespace Go.Proofs.Ytelhgahbhbinoaa.LTailsWhole
open Go.RowKit Flt

theorem toI64b_run {b : Nat} {n : Int} (h : floatToIntVal .f64 b .i64 = some n) (w : World) : (convert 23 2 (.float .f64 b)).run Try.prog w = .ok (.int .i64 n) w :=
  run_convert_float_int w _ _ .f64 .i64 b n (by rw [Try.underlying23]; rfl) Try.underlying2 h
theorem rnd_scale (T : Int) (k j : Nat) : rnd (T * ((2 ^ j : Nat) : Int)) (k + j) = rnd T k := by
  have h1 : (T * ((2 ^ j : Nat) : Int)).natAbs = T.natAbs * 2 ^ j := by rw [Int.natAbs_mul, Int.natAbs_natCast]
  have hp := pow_pos j
  have hn : T * ((2 ^ j : Nat) : Int) < 0 ↔ T < 0 := by
    constructor
    · intro g
      rcases Int.lt_or_le T 0 with g2 | g2
      · exact g2
      · have := Int.mul_nonneg g2 (show (0 : Int) ≤ ((2 ^ j : Nat) : Int) by omega); omega
    · intro g; exact Int.mul_neg_of_neg_of_pos g (by omega)
  unfold rnd
  rw [h1, ru_scale]
  by_cases h : T < 0
  · rw [decide_eq_true h, decide_eq_true (hn.2 h), if_pos h, if_pos (hn.2 h)]
  · rw [decide_eq_false h, decide_eq_false (fun x => h (hn.1 x)), if_neg h, if_neg (fun x => h (hn.1 x))]
theorem rnd_U (T : Int) : rnd (T * (U : Int)) e0 = rnd T 0 := by
  have := rnd_scale T 0 e0
  rw [Nat.zero_add] at this
  exact this
theorem vl_num_fin {r : Nat} {V : Int} (h : vl r = .num V) : rg r < INF ∧ fv r = V := by
  rcases vl_cases r with ⟨_, e⟩ | ⟨_, e⟩ | ⟨h1, e⟩
  · rw [e] at h; cases h
  · rw [e] at h; cases h
  · rw [e] at h; injection h with h; exact ⟨h1, h⟩
theorem abs_fin' {x : Nat} (hf : rg x < INF) : rg (absW x) < INF ∧ fv (absW x) = (rv (rg x) : Int) := by
  unfold absW
  by_cases h : key x < 0
  · rw [if_pos h, mk_false]
    have hl := rg_lt x
    have e1 : rg (rg x) = rg x := rg_self hl
    have e2 : sg (rg x) = false := by have := sg_mk false hl; rwa [mk_false] at this
    refine ⟨by rw [e1]; exact hf, ?_⟩
    unfold fv; rw [e1, e2]; rfl
  · rw [if_neg h]
    refine ⟨hf, ?_⟩
    unfold key at h
    unfold fv
    cases hs : sg x
    · rfl
    · rw [hs] at h
      simp only [if_true] at h ⊢
      have : rg x = 0 := by omega
      rw [this, rv_zero]; rfl
/-- a word of an integer, as an integer -/
theorem to_int {m : Nat} {Q : Int} (h : vl m = .num (Q * (U : Int))) : (FloatKind.f64.decode m).toInt .zero = some Q := by
  have hU := U_pos
  obtain ⟨f1, f2⟩ := vl_num_fin h
  rw [toInt_fin f1]
  have e : rv (rg m) / U = Q.natAbs := by
    rw [← fv_natAbs, f2, Int.natAbs_mul, Int.natAbs_natCast, Nat.mul_div_cancel _ hU]
  rw [e]
  congr 1
  by_cases hQ : Q = 0
  · subst hQ; cases sg m <;> rfl
  · have hs := fv_sign (b := m) (by rw [f2]; intro g; rcases Int.mul_eq_zero.1 g with g | g; exact hQ g; omega)
    rw [hs, f2]
    by_cases hn : Q < 0
    · rw [decide_eq_true ((mulU_neg Q).2 hn)]; simp; omega
    · rw [decide_eq_false (fun g => hn ((mulU_neg Q).1 g))]; simp; omega
theorem to_u64 {m Q : Nat} (h : vl m = .num ((Q : Int) * (U : Int))) (hQ : Q < 18446744073709551616) : floatToIntVal .f64 m .u64 = some (Q : Int) := by
  unfold floatToIntVal
  rw [to_int h]
  have h1 : IntKind.u64.min = 0 := rfl
  have h2 : IntKind.u64.max = 18446744073709551615 := rfl
  show (if _ then _ else _) = _
  rw [h1, h2, if_pos (by omega)]
theorem to_i64 {m : Nat} {Q : Int} (h : vl m = .num (Q * (U : Int))) (hQ : Q.natAbs ≤ 2 ^ 53) : floatToIntVal .f64 m .i64 = some Q := by
  unfold floatToIntVal
  rw [to_int h]
  have h1 : IntKind.i64.min = -9223372036854775808 := rfl
  have h2 : IntKind.i64.max = 9223372036854775807 := rfl
  show (if _ then _ else _) = _
  rw [h1, h2, if_pos (by omega)]
theorem vl_int {n : Int} (h : n.natAbs ≤ 2 ^ 53) : vl (floatOfInt .f64 n) = .num (n * (U : Int)) := by
  rw [ofInt_sw h, vl_sw (fits_i h)]
theorem vl_64 : vl 4895412794951729152 = .num ((18446744073709551616 : Int) * (U : Int)) := by
  obtain ⟨E, hE⟩ : ∃ E, E = 1087 := ⟨_, rfl⟩
  have he := e0_eq
  have e : (4895412794951729152 : Nat) = 1087 * 2 ^ 52 := by decide
  rw [e, ← hE, vl_fin (rg_pow_lt (by omega)), fv_pow (by omega) (by omega), show 51 + E = 64 + e0 by omega, U_eq, Nat.pow_add, Int.natCast_mul]; rfl
theorem fv_53 : rg 4845873199050653696 < INF ∧ fv 4845873199050653696 = (9007199254740992 : Int) * (U : Int) := by
  obtain ⟨E, hE⟩ : ∃ E, E = 1076 := ⟨_, rfl⟩
  have he := e0_eq
  have e : (4845873199050653696 : Nat) = 1076 * 2 ^ 52 := by decide
  refine ⟨by decide, ?_⟩
  rw [e, ← hE, fv_pow (by omega) (by omega), show 51 + E = 53 + e0 by omega, U_eq, Nat.pow_add, Int.natCast_mul]; rfl

/-- the product, and what it has lost -/
theorem product {a b : Nat} (ha : a ≤ 2 ^ 53) (hb : b ≤ 2 ^ 53) : ∃ (c : Int) (P : Nat), (P : Int) + c = (a * b : Nat) ∧ c.natAbs ≤ 2 ^ 53 ∧
    mulv (.num ((a : Int) * (U : Int))) (.num ((b : Int) * (U : Int))) = .num ((P : Int) * (U : Int)) ∧
    fmv (.num ((a : Int) * (U : Int))) (.num ((b : Int) * (U : Int))) (.num (-((P : Int) * (U : Int)))) = .num (c * (U : Int)) := by
  have hU := U_pos
  have he := e0_eq
  have hI := INF_val
  have hn : a * b ≤ 2 ^ 106 := by
    have : a * b ≤ 2 ^ 53 * 2 ^ 53 := Nat.mul_le_mul ha hb
    rw [← Nat.pow_add] at this
    exact this
  obtain ⟨c, c1, c2, _⟩ := prod_err (j := e0) hn
  obtain ⟨P, hP⟩ := ru_mult (a * b) e0
  rw [hP] at c1
  have hru : ru (a * b * 2 ^ e0) 0 < INF := by
    have h1 : a * b * 2 ^ e0 ≤ 2 ^ (51 + (55 + e0)) := by
      rw [show 51 + (55 + e0) = 106 + e0 by omega, Nat.pow_add]; exact Nat.mul_le_mul_right _ hn
    have h2 := ru_mono (k := 0) h1
    have h3 : ru (2 ^ (51 + (55 + e0))) 0 = (55 + e0) * 2 ^ 52 := wd_pow _ (by omega)
    rw [h3] at h2
    have h4 : (55 + e0) * 2 ^ 52 < INF := by rw [he]; decide
    exact Nat.lt_of_le_of_lt h2 h4
  have hprod : (a : Int) * (U : Int) * ((b : Int) * (U : Int)) = ((a * b * 2 ^ e0 : Nat) : Int) * (U : Int) := by
    rw [← U_eq, Int.natCast_mul, Int.natCast_mul, Int.mul_assoc, Int.mul_left_comm (U : Int), ← Int.mul_assoc, ← Int.mul_assoc]
  have hv : rv (ru (a * b * 2 ^ e0) 0) = P * U := by rw [hP, U_eq, Nat.mul_comm]
  have hcU : ((a * b * 2 ^ e0 : Nat) : Int) - ((P : Int) * (U : Int)) = c * (U : Int) := by
    rw [← Int.natCast_mul, ← hv, hP, c1, U_eq]
  refine ⟨c, P, ?_, c2, ?_, ?_⟩
  · have : ((a * b : Nat) : Int) * (U : Int) - (P : Int) * (U : Int) = c * (U : Int) := by
      rw [← hcU, ← U_eq, Int.natCast_mul (a * b)]
    rw [← Int.sub_mul] at this
    have := Int.eq_of_mul_eq_mul_right (show (U : Int) ≠ 0 by omega) this
    omega
  · show rnd ((a : Int) * (U : Int) * ((b : Int) * (U : Int))) e0 = _
    rw [hprod, rnd_U]
    unfold rnd
    rw [Int.natAbs_natCast, if_neg (by omega), if_neg (by omega), hv, Int.natCast_mul]
  · show rnd ((a : Int) * (U : Int) * ((b : Int) * (U : Int)) + -((P : Int) * (U : Int)) * (U : Int)) e0 = _
    rw [hprod, ← Int.add_mul, ← Int.sub_eq_add_neg, hcU, rnd_U]
    exact rnd_num0 (fits_i c2)
theorem tmod_U (P : Nat) : Int.tmod ((P : Int) * (U : Int)) ((18446744073709551616 : Int) * (U : Int)) = ((P % 18446744073709551616 : Nat) : Int) * (U : Int) := by
  have hU := U_pos
  rw [Int.mul_comm (P : Int), Int.mul_comm (18446744073709551616 : Int), Int.mul_tmod_mul_of_pos _ _ (by omega), Int.mul_comm]
  congr 1

theorem modv_num {u v : Int} (h : v ≠ 0) : modv (.num u) (.num v) = .num (u.tmod v) := by
  show (if v = 0 then Val.nan else .num (u.tmod v)) = _
  rw [if_neg h]
/-- all that the law asks of the words -/
structure Wh (a b p t m : Nat) (c : Int) (P : Nat) : Prop where
  sum : (P : Int) + c = (a * b : Nat)
  cb : c.natAbs ≤ 2 ^ 53
  nt : nan t = false
  gt : (FloatKind.f64.format.order (absW t) 4845873199050653696 == some .gt) = false
  md : modW p 4895412794951729152 = m
  u64 : floatToIntVal .f64 m .u64 = some ((P % 18446744073709551616 : Nat) : Int)
  i64 : floatToIntVal .f64 t .i64 = some c
theorem law {a b p t : Nat} (ha : a ≤ 2 ^ 53) (hb : b ≤ 2 ^ 53) (hp : p < 2 ^ 64) (vp : vl p = mulv (vl (floatOfInt .f64 (a : Int))) (vl (floatOfInt .f64 (b : Int)))) (vt : vl t = fmv (vl (floatOfInt .f64 (a : Int))) (vl (floatOfInt .f64 (b : Int))) (negv (mulv (vl (floatOfInt .f64 (a : Int))) (vl (floatOfInt .f64 (b : Int)))))) : ∃ m c P, Wh a b p t m c P := by
  have hU := U_pos
  obtain ⟨c, P, e1, e2, e3, e4⟩ := product ha hb
  rw [vl_int (by omega), vl_int (by omega), e3] at vp vt
  have e5 : negv (.num ((P : Int) * (U : Int))) = .num (-((P : Int) * (U : Int))) := rfl
  rw [e5, e4] at vt
  obtain ⟨f1, f2⟩ := vl_num_fin vt
  obtain ⟨a1, a2⟩ := abs_fin' f1
  have hm : vl (modW p 4895412794951729152) = .num (((P % 18446744073709551616 : Nat) : Int) * (U : Int)) := by
    rw [vl_modW p _ hp, vp, vl_64]
    rw [modv_num (by omega), tmod_U]
  refine ⟨_, c, P, e1, e2, nan_false.2 (Nat.le_of_lt f1), ?_, rfl, to_u64 hm (Nat.mod_lt _ (by decide)), to_i64 vt e2⟩
  rw [c_gt (Nat.le_of_lt a1) (Nat.le_of_lt fv_53.1), decide_eq_false]
  rw [← fv_lt_iff, a2, fv_53.2]
  have h1 : rv (rg t) = c.natAbs * U := by rw [← fv_natAbs, f2, Int.natAbs_mul, Int.natAbs_natCast]
  rw [h1]
  have h2 : c.natAbs * U ≤ 9007199254740992 * U := Nat.mul_le_mul_right _ e2
  omega
theorem len_of {L : List Nat} {x : Val} {l : List Nat} {n : Nat} (h : L.map vl = tlL x (l.map vl)) (hl : l.length = n) : L.length = n := by
  have := congrArg List.length h
  rwa [List.length_map, tlL_len, List.length_map, hl] at this
theorem rd_len {w : World} {base : Nat} {e : TypeId} {A : Option Addr} {c N : Nat} {xs : List Value} (hl : xs.length = N) (h : w.ownsRow base e 1 (.slice A N c) N xs) : Rd w w.heap.size A xs := by
  subst hl; exact Rd.of_own h

set_option maxRecDepth 100000 in
set_option maxHeartbeats 3200000 in
theorem walk_main (w : World) (a b : Nat) (ha : a ≤ 9007199254740992) (hb : b ≤ 9007199254740992) :
    Calls Try.prog 3 #[.int .i64 (a : Int), .int .i64 (b : Int)] w fun e w' => e = .returned (.bool true) ∧ Below w.heap.size w w' := by
  have IA := Lib.hid (fun W : World => isExact_yes (a : Int) W (by omega) (by omega))
  have IB := Lib.hid (fun W : World => isExact_yes (b : Int) W (by omega) (by omega))
  have hlaw := Lib.hid (fun p t => @law a b p t ha hb)
  have hc1 := conv_run (a : Int)
  have hc2 := conv_run (b : Int)
  have hxl : floatOfInt .f64 (a : Int) < 2 ^ 64 := by rw [ofInt_sw (by omega)]; exact sw_lt64 (fits_i (by omega))
  generalize floatOfInt .f64 (a : Int) = x at *
  generalize floatOfInt .f64 (b : Int) = y at *
  have r1 : Rd (w.alloc (.cells #[.float .f64 y] 23)) (w.alloc (.cells #[.float .f64 y] 23)).heap.size (some ⟨w.heap.size, 0, none⟩) (fl [y]) :=
    Rd.of_own (base := w.heap.size) (e := 23) (c := 1) (World.ownsRow_lit w #[.float .f64 y] 1 (Nat.le_refl _) (by decide) rfl)
  have HT := Lib.hid (tails_any x [y] (some ⟨w.heap.size, 0, none⟩) 1 1 _ _ hxl rfl (by decide) (Nat.le_refl _) r1)
  have HB2 : Below w.heap.size w (w.alloc (.cells #[.float .f64 y] 23)) := (Below.refl _ _).alloc (Nat.le_refl _) _
  clear r1
  go_enter Try.func3, Try.ntmps3
  go_wp2_with (go_at_call 15; first | (((with_reducible refine (IA.out _).mono ?_)); rintro e w' ⟨rfl, rfl⟩) | (((with_reducible refine (IB.out _).mono ?_)); rintro e w' ⟨rfl, rfl⟩))
  ((with_reducible refine HT.out.mono ?_); rintro e w2 ⟨p, L, A4, c4, rfl, v1, l1, t1, d1, o4, be1⟩)
  have N1 := len_of t1 rfl
  rw [show [y].length = 1 from rfl] at N1
  rw [N1] at o4 ⊢
  have r4 := rd_len (by rw [fl_len, N1]) o4
  obtain ⟨t, rfl⟩ : ∃ t, L = [t] := by
    match L, N1 with
    | [t], _ => exact ⟨t, rfl⟩
  have vt : vl t = fmv (vl x) (vl y) (negv (mulv (vl x) (vl y))) := by
    have := t1
    simp only [List.map_cons, List.map_nil] at this
    injection this
  obtain ⟨m, c, P, hH⟩ := hlaw.out p t l1 v1 vt
  have HB3 := HB2.trans (be1.mono HB2.size)
  have tl := d1 t (by simp)
  have tgt := hH.gt
  have hu := toU64_run hH.u64
  have hi := toI64b_run hH.i64
  have HA1 := Lib.hid (fun W : World => specAbs_any t W tl hH.nt)
  have HM := Lib.hid (fun W : World => impMod_any p 4895412794951729152 W l1 (by decide))
  rw [hH.md] at HM
  have hsum := hH.sum
  have hcb := hH.cb
  have hab : a * b ≤ 81129638414606681695789005144064 := by
    have : a * b ≤ 9007199254740992 * 9007199254740992 := Nat.mul_le_mul ha hb
    omega
  have hfin : IntKind.u64.wrap (((P % 18446744073709551616 : Nat) : Int) + IntKind.u64.wrap c) = IntKind.u64.wrap ((a : Int) * (b : Int)) := by
    rw [← Int.natCast_mul, ← hsum]
    show (_ + _ % 18446744073709551616) % 18446744073709551616 = (_ + _) % 18446744073709551616
    omega
  obtain ⟨ad1, e1, _, c1⟩ := r4.fl (k := 0) (Nat.succ_pos 0)
  cases e1
  rw [show ([t] : List Nat).getD 0 0 = t from rfl] at c1
  simp [Addr.add] at c1
  clear hlaw hH HT v1 t1 d1 o4 be1 N1 vt HB2 r4 hxl hsum hcb hab
  generalize absW t = at' at *
  generalize ((P % 18446744073709551616 : Nat) : Int) = Q at *
  go_wp2_with (go_at_call 17; ((with_reducible refine (HA1.out _).mono ?_)); rintro e w' ⟨rfl, rfl⟩)
  go_quiet ((go_at_call 18; exact quiet_w (HM.out _)))
  go_wp2
  go_ret
  exact ⟨rfl, HB3.trans ((Qt.drewN (Qt.refl _) _).below _)⟩

set_option maxHeartbeats 800000 in
theorem walk (w : World) (a : Int) (_ha : -9223372036854775808 ≤ a ∧ a ≤ 9223372036854775807) (b : Int) (_hb : -9223372036854775808 ≤ b ∧ b ≤ 9223372036854775807) :
    Calls Try.prog 3 #[.int .i64 a, .int .i64 b] w fun e w' => e = .returned (.bool true) ∧ Below w.heap.size w w' := by
  by_cases h1 : -9007199254740992 ≤ a ∧ a ≤ 9007199254740992
  · have IA := Lib.hid (fun W : World => isExact_yes a W h1.1 h1.2)
    by_cases h2 : -9007199254740992 ≤ b ∧ b ≤ 9007199254740992
    · have IB := Lib.hid (fun W : World => isExact_yes b W h2.1 h2.2)
      by_cases h3 : a < 0
      · clear h1 h2 _ha _hb
        go_enter Try.func3, Try.ntmps3
        go_wp2_with (go_at_call 15; first | (((with_reducible refine (IA.out _).mono ?_)); rintro e w' ⟨rfl, rfl⟩) | (((with_reducible refine (IB.out _).mono ?_)); rintro e w' ⟨rfl, rfl⟩))
        go_ret
        exact ⟨rfl, Below.refl _ _⟩
      · by_cases h4 : b < 0
        · clear h1 h2 _ha _hb
          go_enter Try.func3, Try.ntmps3
          go_wp2_with (go_at_call 15; first | (((with_reducible refine (IA.out _).mono ?_)); rintro e w' ⟨rfl, rfl⟩) | (((with_reducible refine (IB.out _).mono ?_)); rintro e w' ⟨rfl, rfl⟩))
          go_ret
          exact ⟨rfl, Below.refl _ _⟩
        · obtain ⟨n, rfl⟩ : ∃ n : Nat, a = (n : Int) := ⟨a.toNat, by omega⟩
          obtain ⟨m, rfl⟩ : ∃ m : Nat, b = (m : Int) := ⟨b.toNat, by omega⟩
          exact walk_main w n m (by omega) (by omega)
    · have IB := Lib.hid (fun W : World => isExact_no b W (by omega))
      clear h1 h2 _ha _hb
      go_enter Try.func3, Try.ntmps3
      go_wp2_with (go_at_call 15; first | (((with_reducible refine (IA.out _).mono ?_)); rintro e w' ⟨rfl, rfl⟩) | (((with_reducible refine (IB.out _).mono ?_)); rintro e w' ⟨rfl, rfl⟩))
      go_ret
      exact ⟨rfl, Below.refl _ _⟩
  · have IA := Lib.hid (fun W : World => isExact_no a W (by omega))
    clear h1 _ha _hb
    go_enter Try.func3, Try.ntmps3
    go_wp2_with (go_at_call 15; ((with_reducible refine (IA.out _).mono ?_)); rintro e w' ⟨rfl, rfl⟩)
    go_ret
    exact ⟨rfl, Below.refl _ _⟩
end Go.Proofs.Ytelhgahbhbinoaa.LTailsWhole
