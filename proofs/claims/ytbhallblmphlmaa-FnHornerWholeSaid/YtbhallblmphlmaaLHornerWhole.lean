/-
  The walk of laws.FnHornerWhole: it returns true, for all integers.
-/
import Derived.Test.YtbhallblmphlmaaHor
import Derived.Test.YtbhallblmphlmaaFlz
import Derived.Test.YtbhallblmphlmaaRow
namespace Go.Proofs.Ytbhallblmphlmaa.LHornerWhole
open Go.RowKit Flt

theorem rnd_U (T : Int) : rnd (T * (U : Int)) e0 = rnd T 0 := by
  have h1 : (T * (U : Int)).natAbs = T.natAbs * 2 ^ e0 := by rw [Int.natAbs_mul, Int.natAbs_natCast]; rfl
  have h2 := ru_scale T.natAbs 0 e0
  rw [Nat.zero_add] at h2
  have h3 := mulU_neg T
  unfold rnd
  rw [h1, h2]
  by_cases h : T < 0
  · rw [decide_eq_true h, decide_eq_true (h3.2 h), if_pos h, if_pos (h3.2 h)]
  · rw [decide_eq_false h, decide_eq_false (fun x => h (h3.1 x)), if_neg h, if_neg (fun x => h (h3.1 x))]
theorem vl_int {n : Int} (h : n.natAbs ≤ 2 ^ 53) : vl (floatOfInt .f64 n) = .num (n * (U : Int)) := by
  rw [ofInt_sw h, vl_sw (fits_i h)]
theorem alg (v x c V : Int) : v * V * (x * V) + c * V * V = (v * x + c) * V * V := by
  rw [Int.add_mul, Int.add_mul]
  congr 1
  rw [Int.mul_assoc, Int.mul_assoc, Int.mul_assoc, Int.mul_left_comm V x V]
theorem fm_int {v x c : Int} (h : (v * x + c).natAbs ≤ 2 ^ 53) : fmv (.num (v * (U : Int))) (.num (x * (U : Int))) (.num (c * (U : Int))) = .num ((v * x + c) * (U : Int)) := by
  show rnd (v * (U : Int) * (x * (U : Int)) + c * (U : Int) * (U : Int)) e0 = _
  rw [alg, rnd_U]
  have hF := fits_i h
  have := rnd_exact (sw_fin hF) 0
  rw [fv_sw hF, Int.pow_zero, Int.mul_one] at this
  exact this
theorem tdiv_bd (a x : Int) (ha : a.natAbs ≤ 2 ^ 53) : (Int.tdiv a x).natAbs ≤ 2 ^ 53 := by
  rw [Int.natAbs_tdiv]
  exact Nat.le_trans (Nat.div_le_self _ _) ha
theorem div_run (a x : Int) (hx : x ≠ 0) (ha : a.natAbs ≤ 2 ^ 53) (w : World) : (Op.intDiv .quo .i64 a x).run Try.prog w = .ok (.int .i64 (Int.tdiv a x)) w := by
  have hb := tdiv_bd a x ha
  unfold Op.intDiv
  rw [if_neg hx]
  have e : IntKind.i64.wrap (Int.tdiv a x) = Int.tdiv a x := IntWalk.i64_in _ (by omega)
  simp only [e]
  rfl
/-- the overflow guard: the product is small -/
theorem mul_small {v y : Int} (hy : 0 < y) (h1 : v ≤ Int.tdiv 9007199254740992 y) (h2 : -(Int.tdiv 9007199254740992 y) ≤ v) : -9007199254740992 ≤ v * y ∧ v * y ≤ 9007199254740992 := by
  have e : Int.tdiv 9007199254740992 y = 9007199254740992 / y := Int.tdiv_eq_ediv_of_nonneg (by decide)
  rw [e] at h1 h2
  have h3 := Int.ediv_mul_le 9007199254740992 (show y ≠ 0 by omega)
  have h4 := Int.mul_le_mul_of_nonneg_right h1 (show 0 ≤ y by omega)
  have h5 := Int.mul_le_mul_of_nonneg_right h2 (show 0 ≤ y by omega)
  rw [Int.neg_mul] at h5
  omega


/-- what the guard of the loop is told -/
structure Gd (x q r p : Int) : Prop where
  hq : Int.tdiv 9007199254740992 x = q
  hr : IntKind.i64.wrap (-q) = r
  hp : IntKind.i64.wrap (-q) = p
  hw : IntKind.i64.wrap q = q
  pos : 0 < x → ∀ u, u ≤ q → r ≤ u → -9007199254740992 ≤ u * x ∧ u * x ≤ 9007199254740992
  neg : x < 0 → ∀ u, u ≤ p → q ≤ u → -9007199254740992 ≤ u * x ∧ u * x ≤ 9007199254740992
theorem gd (x : Int) (hx : x ≠ 0) : ∃ q r p, Gd x q r p := by
  have hb := tdiv_bd 9007199254740992 x (by decide)
  refine ⟨_, _, _, rfl, IntWalk.i64_in _ (by omega), IntWalk.i64_in _ (by omega), IntWalk.i64_in _ (by omega), fun h0 u h1 h2 => ?_, fun h0 u h1 h2 => ?_⟩
  · exact mul_small h0 h1 h2
  · obtain ⟨y, rfl⟩ : ∃ y, x = -y := ⟨-x, by omega⟩
    rw [Int.tdiv_neg, Int.neg_neg] at h1
    rw [Int.tdiv_neg] at h2
    have := mul_small (v := u) (y := y) (by omega) h1 h2
    rw [Int.mul_neg]
    omega

theorem hor_snoc {x s u : Int} {l : List Int} {k : Nat} (hk : k < l.length) (hz : (l.getD k 0).natAbs ≤ 2 ^ 53) (h : horv (.num (x * (U : Int))) (.num (s * (U : Int))) ((fls (l.take k)).map vl) = .num (u * (U : Int))) (hv : (u * x + l.getD k 0).natAbs ≤ 2 ^ 53) :
    horv (.num (x * (U : Int))) (.num (s * (U : Int))) ((fls (l.take (k + 1))).map vl) = .num ((u * x + l.getD k 0) * (U : Int)) := by
  rw [take_snoc l k 0 hk]
  unfold fls at h ⊢
  rw [List.map_append, List.map_append]
  show horv _ _ (_ ++ [vl (floatOfInt .f64 (l.getD k 0))]) = _
  rw [horv_snoc, h, vl_int hz, fm_int hv]

theorem eq_of_vl {a b : Nat} (h : vl a = vl b) (hf : rg b < INF) : (FloatKind.f64.format.order a b == some .eq) = true := by
  rw [vl_fin hf] at h
  rcases vl_cases a with ⟨_, e⟩ | ⟨_, e⟩ | ⟨h1, e⟩
  · rw [e] at h; cases h
  · rw [e] at h; cases h
  · rw [e] at h
    injection h with h
    rw [c_eq (Nat.le_of_lt h1) (Nat.le_of_lt hf), decide_eq_true ((fv_eq_iff a b).1 h)]

set_option maxRecDepth 100000 in
set_option maxHeartbeats 6400000 in
theorem walkIn (w : World) (s : Int) (hs : s.natAbs ≤ 2 ^ 53) (A : Option Addr) (n c : Nat) (l : List Int) (h : IRow w A n c l) (x : Int) (hx : x.natAbs ≤ 2 ^ 53) :
    Calls Try.prog 7 #[.int .i64 s, .slice A n c, .int .i64 x] w fun e' w' => e' = .returned (.bool true) ∧ Below w.heap.size w w' := by
  obtain ⟨hlen0, hcap, hroom, hrd, hwd0⟩ := h
  have hlen := Lib.hid hlen0
  have IS := Lib.hid (fun W : World => isExact_yes s W (by omega) (by omega))
  have IX := Lib.hid (fun W : World => isExact_yes x W (by omega) (by omega))
  have o1 := one_three
  clear hlen0 hcap hwd0
  go_enter Try.func7, Try.ntmps7
  go_wp2_with (go_at_call 21; first | (((with_reducible refine (IS.out _).mono ?_)); rintro e w' ⟨rfl, rfl⟩) | (((with_reducible refine (IX.out _).mono ?_)); rintro e w' ⟨rfl, rfl⟩))
  go_loopw [7, 9, 21] (fun v _ i wr => ∃ (k : Nat) (u : Int), k ≤ n ∧ i = .int .i64 k ∧ v = .int .i64 u ∧ u.natAbs ≤ 2 ^ 53 ∧ Hid (horv (.num (x * (U : Int))) (.num (s * (U : Int))) ((fls (l.take k)).map vl) = .num (u * (U : Int))) ∧ w = wr) (fun _ _ i _ => n - (intOf i).toNat)
  case atStart => exact ⟨0, s, Nat.zero_le _, rfl, rfl, hs, rfl, rfl⟩
  case round =>
    obtain ⟨k, u, hk, rfl, rfl, hu, hv, rfl⟩ := hrel
    by_cases hlt : k < n
    · obtain ⟨ad, e1, _, c1⟩ := hrd.il (k := k) (by rw [hlen.out]; exact hlt)
      cases e1
      have hsn := Lib.hid (fun hz hv' => hor_snoc (x := x) (s := s) (u := u) (l := l) (k := k) (by rw [hlen.out]; exact hlt) hz hv.out hv')
      generalize l.getD k 0 = z at *
      clear hv hs
      have HZ : Hid ((z.natAbs ≤ 2 ^ 53 ∧ ∀ W : World, Calls Try.prog 21 #[.int .i64 z] W fun e w' => e = .returned (.bool true) ∧ W = w') ∨ (∀ W : World, Calls Try.prog 21 #[.int .i64 z] W fun e w' => e = .returned (.bool false) ∧ W = w')) := by
        by_cases hz : -9007199254740992 ≤ z ∧ z ≤ 9007199254740992
        · exact Or.inl ⟨by omega, fun W => isExact_yes z W hz.1 hz.2⟩
        · exact Or.inr fun W => isExact_no z W (by omega)
      by_cases h0 : x = 0
      · subst h0
        rw [Int.mul_zero, Int.zero_add] at hsn
        rcases HZ.out with ⟨hz, HY⟩ | HNo
        · have HY' := Lib.hid HY
          have hnx := Lib.hid (hsn.out hz hz)
          have hw0 : IntKind.i64.wrap z = z := IntWalk.i64_in _ (by omega)
          clear HY hsn
          go_wp2_with (go_at_call 21; ((with_reducible refine (HY'.out _).mono ?_)); rintro e w' ⟨rfl, rfl⟩)
          go_roundw
          case rel => exact ⟨k + 1, z, by omega, by go_num, rfl, hz, hnx.out, by trivial⟩
          case measure => simp [intOf]; omega
        · have HN := Lib.hid HNo
          clear HNo hsn
          go_wp2_with (go_at_call 21; ((with_reducible refine (HN.out _).mono ?_)); rintro e w' ⟨rfl, rfl⟩)
          go_ret
          exact ⟨rfl, Below.refl _ _⟩
      · obtain ⟨q, r, p, hq, hr, hp, hw, g1, g2⟩ := gd x h0
        have hpr : p = r := hp.symm.trans hr
        subst hpr
        have G1 := Lib.hid g1
        have G2 := Lib.hid g2
        have t0 : (x == 0) = false := by simp [h0]
        have t00 : (x != 0) = true := by simp [h0]
        clear g1 g2 hr
        rcases Int.lt_or_le 0 x with hx0 | hx0
        · have t1 : decide (0 < x) = true := decide_eq_true hx0
          have t2 : decide (x < 0) = false := decide_eq_false (by omega)
          have G := Lib.hid (G1.out hx0)
          clear G1 G2
          rcases Int.lt_or_le q u with a1 | a1
          · have b1 : decide (q < u) = true := decide_eq_true a1
            clear a1
            go_wp2
            go_ret
            exact ⟨rfl, Below.refl _ _⟩
          · have b1 : decide (q < u) = false := decide_eq_false (by omega)
            rcases Int.lt_or_le u p with a2 | a2
            · have b2 : decide (u < p) = true := decide_eq_true a2
              clear a1 a2
              go_wp2
              go_ret
              exact ⟨rfl, Below.refl _ _⟩
            · have b2 : decide (u < p) = false := decide_eq_false (by omega)
              obtain ⟨m1, m2⟩ := G.out u a1 a2
              obtain ⟨m, hm⟩ : ∃ m, u * x = m := ⟨_, rfl⟩
              rw [hm] at m1 m2
              have hm' := Lib.hid hm
              have hmul : IntKind.i64.wrap (u * x) = m := by rw [hm]; exact IntWalk.i64_in _ (by omega)
              clear hm G
              clear a1 a2
              obtain ⟨b3, hb3⟩ : ∃ b, decide (p < u) = b := ⟨_, rfl⟩
              obtain ⟨b4, hb4⟩ : ∃ b, decide (u < q) = b := ⟨_, rfl⟩
              rcases HZ.out with ⟨hz, HY⟩ | HNo
              · have HY' := Lib.hid HY
                have hadd : IntKind.i64.wrap (m + z) = m + z := IntWalk.i64_in _ (by omega)
                by_cases hv' : -9007199254740992 ≤ m + z ∧ m + z ≤ 9007199254740992
                · have HV := Lib.hid (fun W : World => isExact_yes (m + z) W hv'.1 hv'.2)
                  have hnx := Lib.hid (hsn.out hz (by rw [hm'.out]; omega))
                  rw [hm'.out] at hnx
                  have hmb : (m + z).natAbs ≤ 2 ^ 53 := by omega
                  clear hv' HY hsn hz
                  cases b3 <;> cases b4
                  all_goals
                    go_wp2_with (go_at_call 21; first | (((with_reducible refine (HY'.out _).mono ?_)); rintro e w' ⟨rfl, rfl⟩) | (((with_reducible refine (HV.out _).mono ?_)); rintro e w' ⟨rfl, rfl⟩))
                    go_roundw
                    case rel => exact ⟨k + 1, m + z, by omega, by go_num, rfl, hmb, hnx.out, by trivial⟩
                    case measure => simp [intOf]; omega
                · have HV := Lib.hid (fun W : World => isExact_no (m + z) W (by omega))
                  clear hv' HY hsn hz
                  cases b3 <;> cases b4
                  all_goals
                    go_wp2_with (go_at_call 21; first | (((with_reducible refine (HY'.out _).mono ?_)); rintro e w' ⟨rfl, rfl⟩) | (((with_reducible refine (HV.out _).mono ?_)); rintro e w' ⟨rfl, rfl⟩))
                    go_ret
                    exact ⟨rfl, Below.refl _ _⟩
              · have HN := Lib.hid HNo
                clear HNo hsn
                cases b3 <;> cases b4
                all_goals
                  go_wp2_with (go_at_call 21; ((with_reducible refine (HN.out _).mono ?_)); rintro e w' ⟨rfl, rfl⟩)
                  go_ret
                  exact ⟨rfl, Below.refl _ _⟩
        · have hx1 : x < 0 := by omega
          have t1 : decide (0 < x) = false := decide_eq_false (by omega)
          have t2 : decide (x < 0) = true := decide_eq_true hx1
          have G := Lib.hid (G2.out hx1)
          clear G1 G2
          obtain ⟨b3, hb3⟩ : ∃ b, decide (q < u) = b := ⟨_, rfl⟩
          obtain ⟨b4, hb4⟩ : ∃ b, decide (u < p) = b := ⟨_, rfl⟩
          rcases Int.lt_or_le p u with a1 | a1
          · have b1 : decide (p < u) = true := decide_eq_true a1
            clear a1
            cases b3 <;> cases b4
            all_goals
              go_wp2
              go_ret
              exact ⟨rfl, Below.refl _ _⟩
          · have b1 : decide (p < u) = false := decide_eq_false (by omega)
            rcases Int.lt_or_le u q with a2 | a2
            · have b2 : decide (u < q) = true := decide_eq_true a2
              clear a1 a2
              cases b3 <;> cases b4
              all_goals
                go_wp2
                go_ret
                exact ⟨rfl, Below.refl _ _⟩
            · have b2 : decide (u < q) = false := decide_eq_false (by omega)
              obtain ⟨m1, m2⟩ := G.out u a1 a2
              obtain ⟨m, hm⟩ : ∃ m, u * x = m := ⟨_, rfl⟩
              rw [hm] at m1 m2
              have hm' := Lib.hid hm
              have hmul : IntKind.i64.wrap (u * x) = m := by rw [hm]; exact IntWalk.i64_in _ (by omega)
              clear hm G
              clear a1 a2
              rcases HZ.out with ⟨hz, HY⟩ | HNo
              · have HY' := Lib.hid HY
                have hadd : IntKind.i64.wrap (m + z) = m + z := IntWalk.i64_in _ (by omega)
                by_cases hv' : -9007199254740992 ≤ m + z ∧ m + z ≤ 9007199254740992
                · have HV := Lib.hid (fun W : World => isExact_yes (m + z) W hv'.1 hv'.2)
                  have hnx := Lib.hid (hsn.out hz (by rw [hm'.out]; omega))
                  rw [hm'.out] at hnx
                  have hmb : (m + z).natAbs ≤ 2 ^ 53 := by omega
                  clear hv' HY hsn hz
                  cases b3 <;> cases b4
                  all_goals
                    go_wp2_with (go_at_call 21; first | (((with_reducible refine (HY'.out _).mono ?_)); rintro e w' ⟨rfl, rfl⟩) | (((with_reducible refine (HV.out _).mono ?_)); rintro e w' ⟨rfl, rfl⟩))
                    go_roundw
                    case rel => exact ⟨k + 1, m + z, by omega, by go_num, rfl, hmb, hnx.out, by trivial⟩
                    case measure => simp [intOf]; omega
                · have HV := Lib.hid (fun W : World => isExact_no (m + z) W (by omega))
                  clear hv' HY hsn hz
                  cases b3 <;> cases b4
                  all_goals
                    go_wp2_with (go_at_call 21; first | (((with_reducible refine (HY'.out _).mono ?_)); rintro e w' ⟨rfl, rfl⟩) | (((with_reducible refine (HV.out _).mono ?_)); rintro e w' ⟨rfl, rfl⟩))
                    go_ret
                    exact ⟨rfl, Below.refl _ _⟩
              · have HN := Lib.hid HNo
                clear HNo hsn
                cases b3 <;> cases b4
                all_goals
                  go_wp2_with (go_at_call 21; ((with_reducible refine (HN.out _).mono ?_)); rintro e w' ⟨rfl, rfl⟩)
                  go_ret
                  exact ⟨rfl, Below.refl _ _⟩
    · have hkm : l.take k = l := List.take_of_length_le (by rw [hlen.out]; omega)
      rw [hkm] at hv
      have hc1 := conv_run s
      have hc2 := conv_run x
      have hc3 := conv_run u
      have V1 := vl_int hs
      have V2 := vl_int hx
      have V3 := vl_int hu
      have hfu : rg (floatOfInt .f64 u) < INF := by rw [ofInt_sw hu]; exact sw_fin (fits_i hu)
      have hsl : floatOfInt .f64 s < 2 ^ 64 := by rw [ofInt_sw hs]; exact sw_lt64 (fits_i hs)
      have heq := Lib.hid (fun (b : Nat) (hb : vl b = horv (vl (floatOfInt .f64 x)) (vl (floatOfInt .f64 s)) ((fls l).map vl)) => eq_of_vl (a := b) (b := floatOfInt .f64 u) (by rw [hb, V1, V2, hv.out, V3]) hfu)
      have HFL := Lib.hid (floats_any l A c n w.heap.size w hlen.out hroom (Nat.le_refl _) hrd)
      clear V1 V2 V3 hkm hv
      generalize floatOfInt .f64 s = ws at *
      generalize floatOfInt .f64 x = wx at *
      generalize floatOfInt .f64 u = wu at *
      go_wp2_with fail
      ((with_reducible refine HFL.out.mono ?_); rintro e w2 ⟨A2, c2, rfl, hc2, hown2, hbel2⟩)
      have r2 := Rd.of_own hown2
      have hl2 : (fl (fls l)).length = n := by rw [fl_len, fls_len, hlen.out]
      rw [hl2]
      clear hown2 hc2 hl2
      go_wp2_with fail
      ((with_reducible refine (horner_any _ _ (fls l) _ _ _ _ _ hsl (by rw [fls_len, hlen.out]) (by omega) r2).mono ?_); rintro e w3 ⟨b3, rfl, v3, l3, q3⟩)
      have he3 := heq.out b3 v3
      clear v3 heq
      go_wp2_with fail
      ((with_reducible refine (horner_nil _ _ _ _ _).mono ?_); rintro e w' ⟨rfl, rfl⟩)
      go_wp2
      go_ret
      exact ⟨rfl, hbel2.trans (q3.below _)⟩

set_option maxHeartbeats 800000 in
theorem walk (w : World) (s : Int) (_hs : -9223372036854775808 ≤ s ∧ s ≤ 9223372036854775807) (A : Option Addr) (n c : Nat) (l : List Int) (h : IRow w A n c l) (x : Int) (_hx : -9223372036854775808 ≤ x ∧ x ≤ 9223372036854775807) :
    Calls Try.prog 7 #[.int .i64 s, .slice A n c, .int .i64 x] w fun e' w' => e' = .returned (.bool true) ∧ Below w.heap.size w w' := by
  by_cases h1 : -9007199254740992 ≤ s ∧ s ≤ 9007199254740992
  · by_cases h2 : -9007199254740992 ≤ x ∧ x ≤ 9007199254740992
    · exact walkIn w s (by omega) A n c l h x (by omega)
    · have IA := Lib.hid (fun W : World => isExact_yes s W h1.1 h1.2)
      have IB := Lib.hid (fun W : World => isExact_no x W (by omega))
      clear h1 h2 _hs _hx h
      go_enter Try.func7, Try.ntmps7
      go_wp2_with (go_at_call 21; first | (((with_reducible refine (IA.out _).mono ?_)); rintro e w' ⟨rfl, rfl⟩) | (((with_reducible refine (IB.out _).mono ?_)); rintro e w' ⟨rfl, rfl⟩))
      go_ret
      exact ⟨rfl, Below.refl _ _⟩
  · have IA := Lib.hid (fun W : World => isExact_no s W (by omega))
    clear h1 _hs _hx h
    go_enter Try.func7, Try.ntmps7
    go_wp2_with (go_at_call 21; ((with_reducible refine (IA.out _).mono ?_)); rintro e w' ⟨rfl, rfl⟩)
    go_ret
    exact ⟨rfl, Below.refl _ _⟩
end Go.Proofs.Ytbhallblmphlmaa.LHornerWhole
