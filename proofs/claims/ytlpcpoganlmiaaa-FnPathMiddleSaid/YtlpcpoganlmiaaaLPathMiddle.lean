/-
  The walk of laws.FnPathMiddle: it returns true, for all numbers and every n.
-/
import Derived.Test.YtlpcpoganlmiaaaLawA
import Derived.Test.YtlpcpoganlmiaaaPth
import Derived.Test.YtlpcpoganlmiaaaMid
import Derived.Test.YtlpcpoganlmiaaaTlp
import Derived.Test.YtlpcpoganlmiaaaFma
import Derived.Test.YtlpcpoganlmiaaaFdu
import Derived.BigQuiet
namespace Go.Proofs.Ytlpcpoganlmiaaa.LPathMiddle
open Go.RowKit Flt

theorem run_q {op : BinOp} {x y r : Nat} (h : floatBits op .f64 x y = some r) (w : World) : (binOp op 24 (.float .f64 x) (.float .f64 y)).run Try.prog w = .ok (.float .f64 r) w := run_float_arith w op _ .f64 x y r h

/-- the middle of neighbours is one of them -/
theorem ru_mid (r : Nat) : ru (rv r + rv (r + 1)) 1 = r ∨ ru (rv r + rv (r + 1)) 1 = r + 1 := by
  have h1 := rv_lt_succ r
  have h2 := rv_lt_succ (r + 1)
  rcases Nat.mod_two_eq_zero_or_one r with h | h
  · refine Or.inl (ru_eq ⟨⟨by omega, fun g => by omega⟩, fun g => ?_⟩)
    have h3 := rv_lt_succ (r - 1)
    rw [show r - 1 + 1 = r by omega] at h3
    exact ⟨by omega, fun g => by omega⟩
  · refine Or.inr (ru_eq ⟨⟨by omega, fun g => by omega⟩, fun _ => ?_⟩)
    rw [show r + 1 - 1 = r by omega]
    exact ⟨by omega, fun g => by omega⟩
theorem rnd_scale (T : Int) (k j : Nat) : rnd (T * ((2 ^ j : Nat) : Int)) (k + j) = rnd T k := by
  have h1 : (T * ((2 ^ j : Nat) : Int)).natAbs = T.natAbs * 2 ^ j := by rw [Int.natAbs_mul, Int.natAbs_natCast]
  have hp := pow_pos j
  have hn : T * ((2 ^ j : Nat) : Int) < 0 ↔ T < 0 := by
    constructor
    · intro g
      rcases Int.lt_or_le T 0 with g2 | g2
      · exact g2
      · have := Int.mul_nonneg g2 (show (0 : Int) ≤ ((2 ^ j : Nat) : Int) by omega); omega
    · intro g; exact Int.mul_neg_of_neg_of_pos g (by omega)
  unfold rnd
  rw [h1, ru_scale]
  by_cases h : T < 0
  · rw [decide_eq_true h, decide_eq_true (hn.2 h), if_pos h, if_pos (hn.2 h)]
  · rw [decide_eq_false h, decide_eq_false (fun x => h (hn.1 x)), if_neg h, if_neg (fun x => h (hn.1 x))]
theorem rnd_pair {s : Bool} {r : Nat} (h : r + 1 < INF) : rnd (if s then -((rv r + rv (r + 1) : Nat) : Int) else ((rv r + rv (r + 1) : Nat) : Int)) 1 = .num (if s then -(rv r : Int) else (rv r : Int)) ∨ rnd (if s then -((rv r + rv (r + 1) : Nat) : Int) else ((rv r + rv (r + 1) : Nat) : Int)) 1 = .num (if s then -(rv (r + 1) : Int) else (rv (r + 1) : Int)) := by
  have hm := ru_mid r
  have hp : 0 < rv (r + 1) := rv_pos (Nat.succ_pos r)
  unfold rnd
  have ha : (if s then -((rv r + rv (r + 1) : Nat) : Int) else ((rv r + rv (r + 1) : Nat) : Int)).natAbs = rv r + rv (r + 1) := by cases s <;> simp <;> omega
  rw [ha, if_neg (by rcases hm with h | h <;> rw [h] <;> omega)]
  cases s
  · rw [if_neg (by simp; omega)]
    rcases hm with h | h <;> rw [h]
    · exact Or.inl rfl
    · exact Or.inr rfl
  · rw [if_pos (by simp; omega)]
    rcases hm with h | h <;> rw [h]
    · exact Or.inl rfl
    · exact Or.inr rfl
theorem fv_of (b : Nat) : fv b = if sg b then -(rv (rg b) : Int) else (rv (rg b) : Int) := rfl
theorem key_of (b : Nat) : key b = if sg b then -(rg b : Int) else (rg b : Int) := rfl

/-- b is a or a neighbour of it -/
theorem neigh {a y : Nat} (ha : a < 2 ^ 64) (hna : nan a = false) (h1 : 2 ≤ rg a) (h2 : 2 ≤ rg (nxt a y)) (hnb : nan (nxt a y) = false) : sg (nxt a y) = sg a ∧ (rg (nxt a y) = rg a ∨ rg (nxt a y) = rg a + 1 ∨ rg (nxt a y) + 1 = rg a) := by
  have hny : nan y = false := by
    cases hy : nan y
    · rfl
    · rw [nan_nxt (Or.inr hy)] at hnb; cases hnb
  obtain ⟨k, _⟩ := nxt_key (y := y) ha hna hny
  generalize nxt a y = b at *
  rw [key_of b, key_of a] at k
  have hs : ∀ p q : Int, stp p q = p ∨ stp p q = p + 1 ∨ stp p q = p - 1 := fun p q => by
    rcases Int.lt_trichotomy p q with g | g | g
    · rw [stp_lt g]; omega
    · rw [stp_eq g]; omega
    · rw [stp_gt g]; omega
  have := hs (if sg a then -(rg a : Int) else (rg a : Int)) (key y)
  rw [← k] at this
  cases hsa : sg a <;> cases hsb : sg b <;> rw [hsa, hsb] at this <;> simp at this <;> refine ⟨?_, ?_⟩ <;> first | rfl | omega
theorem half_num {b : Nat} (h : 623 * 2 ^ 52 ≤ rg b) (hf : rg b < INF) : ∃ V : Int, fv b = V * 2 ∧ Fits V.natAbs := by
  obtain ⟨q, hq⟩ : 2 ∣ rv (rg b) := by
    have h1 := rung_mult (t := 1) (r := rg b) (by omega)
    exact h1
  have hF : Fits q := by
    have : Fits (q * 2 ^ 1) := by rw [Nat.pow_one, Nat.mul_comm, ← hq]; exact fits_rv hf
    exact this.of_mul
  refine ⟨if sg b then -(q : Int) else (q : Int), ?_, ?_⟩
  · rw [fv_of, hq]; split <;> simp <;> omega
  · split
    · rw [Int.natAbs_neg, Int.natAbs_natCast]; exact hF
    · rw [Int.natAbs_natCast]; exact hF
theorem half_eq : (4602678819172646912 : Nat) = 1022 * 2 ^ 52 := by decide
theorem vl_half : vl 4602678819172646912 = .num ((2 ^ (e0 - 1) : Nat) : Int) := by
  obtain ⟨E, hE⟩ : ∃ E, E = 1022 := ⟨_, rfl⟩
  have he := e0_eq
  rw [half_eq, ← hE, vl_fin (rg_pow_lt (by omega)), fv_pow (by omega) (by omega), show 51 + E = e0 - 1 by omega]
theorem quo_two {b : Nat} (hf : rg b < INF) : floatBits .quo .f64 b 4611686018427387904 = some (rs (sg b) (fv b) 1) := by
  have : (4611686018427387904 : Nat) = 1024 * 2 ^ 52 := by decide
  show Ieee.double.div b 4611686018427387904 = _
  rw [this]
  refine div_pow hf ?_
  rw [read_pow (by decide) (by decide)]
  rfl
theorem ov_some (r : Nat) : ov (some r) = vl r := rfl
theorem alg (a b V : Int) (h : b = V * 2) (P : Int) : P * a + V * (P * 2) = (a + b) * P := by
  subst h
  rw [Int.add_mul, Int.mul_comm P a, Int.mul_assoc, Int.mul_comm 2 P]
/-- the middle of neighbours, as the law reckons it -/
theorem mid_law {a b : Nat} (hsg : sg b = sg a) (hr : rg b = rg a ∨ rg b = rg a + 1 ∨ rg b + 1 = rg a) (_ha : 623 * 2 ^ 52 ≤ rg a) (hb : 623 * 2 ^ 52 ≤ rg b) (ha2 : rg a < INF) (hb2 : rg b < INF) :
    ∃ h m, floatBits .quo .f64 b 4611686018427387904 = some h ∧ Ieee.double.fma 4602678819172646912 a h = some m ∧ (vl m = vl a ∨ vl m = vl b) := by
  have hI := INF_val
  have he := e0_eq
  obtain ⟨V, hV, hFV⟩ := half_num hb hb2
  have e1 : vl (rs (sg b) (fv b) 1) = .num V := by
    rw [vl_rs, hV]
    have := rnd_num hFV 1
    exact this
  have hfin : rg (rs (sg b) (fv b) 1) < INF := by
    rcases vl_cases (rs (sg b) (fv b) 1) with ⟨_, e⟩ | ⟨_, e⟩ | ⟨h1, _⟩
    · rw [e1] at e; cases e
    · rw [e1] at e; cases e
    · exact h1
  have hhalf : rg 4602678819172646912 < INF := by decide
  have hov := ov_fma 4602678819172646912 a (rs (sg b) (fv b) 1)
  refine ⟨_, _, quo_two hb2, fma_fin hhalf ha2 hfin, ?_⟩
  rw [fma_fin hhalf ha2 hfin] at hov
  have hov2 := hov
  show vl _ = _ ∨ vl _ = _
  have hval : vl (rs ((sg 4602678819172646912 ^^ sg a) && sg (rs (sg b) (fv b) 1)) (fv 4602678819172646912 * fv a + fv (rs (sg b) (fv b) 1) * (U : Int)) e0) = rnd (fv a + fv b) 1 := by
    have := hov2
    rw [ov_some] at this
    rw [this, vl_half, e1, vl_fin ha2]
    have h3 : fmv (.num ((2 ^ (e0 - 1) : Nat) : Int)) (.num (fv a)) (.num V) = rnd (((2 ^ (e0 - 1) : Nat) : Int) * fv a + V * (U : Int)) e0 := rfl
    rw [h3]
    have hU : (U : Int) = ((2 ^ (e0 - 1) : Nat) : Int) * 2 := by
      rw [U_eq]
      have : 2 ^ e0 = 2 ^ (e0 - 1) * 2 := by rw [← Nat.pow_succ]; congr 1
      rw [this]; simp
    rw [hU, alg _ _ _ hV]
    have h4 := rnd_scale (fv a + fv b) 1 (e0 - 1)
    rw [show 1 + (e0 - 1) = e0 by omega] at h4
    exact h4
  rw [hval, vl_fin ha2, vl_fin hb2]
  rw [fv_of a, fv_of b, hsg]
  rcases hr with hr | hr | hr
  · left
    rw [hr]
    have hF := fits_rv ha2
    have h5 : Fits (if sg a then -(rv (rg a) : Int) else (rv (rg a) : Int)).natAbs := by
      split
      · rw [Int.natAbs_neg, Int.natAbs_natCast]; exact hF
      · rw [Int.natAbs_natCast]; exact hF
    have := rnd_num h5 1
    rw [← this]
    congr 1
    rw [Nat.pow_one]
    show _ = _ * 2
    omega
  · rw [hr]
    have := rnd_pair (s := sg a) (r := rg a) (by omega)
    have e : (if sg a then -(rv (rg a) : Int) else (rv (rg a) : Int)) + (if sg a then -(rv (rg a + 1) : Int) else (rv (rg a + 1) : Int)) = (if sg a then -((rv (rg a) + rv (rg a + 1) : Nat) : Int) else ((rv (rg a) + rv (rg a + 1) : Nat) : Int)) := by
      cases sg a <;> simp <;> omega
    rw [e]
    exact this
  · rw [← hr]
    have := rnd_pair (s := sg a) (r := rg b) (by omega)
    have e : (if sg a then -(rv (rg b + 1) : Int) else (rv (rg b + 1) : Int)) + (if sg a then -(rv (rg b) : Int) else (rv (rg b) : Int)) = (if sg a then -((rv (rg b) + rv (rg b + 1) : Nat) : Int) else ((rv (rg b) + rv (rg b + 1) : Nat) : Int)) := by
      cases sg a <;> simp <;> omega
    rw [e]
    exact this.symm

set_option maxHeartbeats 400000 in
theorem impFMA_fin {x y z r : Nat} (h : Ieee.double.fma x y z = some r) (w : World) : Calls Try.prog 35 #[.float .f64 x, .float .f64 y, .float .f64 z] w fun e w' => e = .returned (.float .f64 r) ∧ w = w' := by
  have hc := call_fma h
  clear h
  go_enter Try.func35, Try.ntmps35
  go_wp2
  go_ret
  exact ⟨rfl, rfl⟩
theorem vl_ne {m a : Nat} (h : vl m = vl a) (hf : rg a < INF) : (FloatKind.f64.format.order m a != some .eq) = false := by
  rw [vl_fin hf] at h
  rcases vl_cases m with ⟨_, e⟩ | ⟨_, e⟩ | ⟨h1, e⟩
  · rw [e] at h; cases h
  · rw [e] at h; cases h
  · rw [e] at h
    injection h with h
    have := (fv_eq_iff m a).1 h
    rw [c_ne (Nat.le_of_lt h1) (Nat.le_of_lt hf), decide_eq_false (fun g => g this)]
theorem eq_zero_t {x : Nat} (h : rg x = 0) : (FloatKind.f64.format.order x 0 == some .eq) = true := by
  have hk : key x = 0 := by have := key_natAbs x; omega
  rw [c_eq (by rw [h]; exact Nat.zero_le _) rg_zero_le, key_zero, decide_eq_true hk]
theorem eq_zero_f {x : Nat} (h : rg x ≠ 0) (h1 : rg x ≤ INF) : (FloatKind.f64.format.order x 0 == some .eq) = false := by
  have hk : key x ≠ 0 := by have := key_natAbs x; omega
  rw [c_eq h1 rg_zero_le, key_zero, decide_eq_false hk]
theorem mid_ge {r : Nat} (h : Mid r) (h0 : r ≠ 0) : 623 * 2 ^ 52 ≤ r ∧ r < INF := by
  have := INF_val
  rcases h with h | ⟨h1, h2⟩
  · exact absurd h h0
  · exact ⟨h1, by omega⟩

set_option maxRecDepth 100000 in
set_option maxHeartbeats 3200000 in
theorem walk (w : World) (x : Nat) (hx : x < 2 ^ 64) (y : Nat) (hy : y < 2 ^ 64) (n : Int) (_hn : -9223372036854775808 ≤ n ∧ n ≤ 9223372036854775807) :
    Calls Try.prog 14 #[.float .f64 x, .float .f64 y, .int .i64 n] w fun e w' => e = .returned (.bool true) ∧ Below w.heap.size w w' := by
  obtain ⟨m, hmn⟩ : ∃ m : Nat, n % 200 = (m : Int) := ⟨(n % 200).toNat, by omega⟩
  have hmb : m < 200 := by omega
  have HMn := Lib.hid hmn
  have HP := Lib.hid (fun W : World => path_any x y n W hx hy)
  rw [show (n % 200).toNat = m by omega] at HP
  clear hmn
  go_enter Try.func14, Try.ntmps14
  go_wp2_with fail
  ((with_reducible refine (HP.out _).mono ?_); rintro e w1 ⟨A, c, rfl, hc, hown, hbel⟩)
  have hr := Rd.of_own hown
  unfold pathV at hr
  rw [pathV_len]
  clear hown hc HP
  go_wp2
  go_loopw [8, 9] (fun i _ wr => ∃ k : Nat, 1 ≤ k ∧ k ≤ m + 1 ∧ i = .int .i64 k ∧ Qt w1 wr) (fun i _ _ => m + 1 - (intOf i).toNat)
  case atStart => exact ⟨1, by omega, by omega, rfl, Qt.refl _⟩
  case round =>
    obtain ⟨k, hk1, hk, rfl, hq⟩ := hrel
    by_cases hlt : k < m + 1
    · obtain ⟨j, hj⟩ : ∃ j, j + 1 = k := ⟨k - 1, by omega⟩
      obtain ⟨ad1, e1, _, c2⟩ := (hr.qt hq).fl (k := k) (by rw [pathW_len]; omega)
      obtain ⟨ad2, e2, _, c3⟩ := (hr.qt hq).fl (k := j) (by rw [pathW_len]; omega)
      cases e1; cases e2
      rw [pathW_get (by omega)] at c2 c3
      have hit : it y x k = nxt (it y x j) y := by rw [← hj]; rfl
      have hal := it_lt y hx j
      have hbl := it_lt y hx k
      have hw : IntKind.i64.wrap ((k : Int) - 1) = (j : Int) := by rw [IntWalk.i64_in _ (by omega)]; omega
      have hjN : j < m + 1 := by omega
      generalize it y x k = b at *
      generalize it y x j = a at *
      have hj' := Lib.hid hj
      have HM1 := Lib.hid (fun W : World => middle_any a W hal)
      have HM2 := Lib.hid (fun W : World => middle_any b W hbl)
      clear hj
      by_cases ma : Mid (rg a)
      · rw [decide_eq_true ma] at HM1
        by_cases mb : Mid (rg b)
        · rw [decide_eq_true mb] at HM2
          by_cases za : rg a = 0
          · have ta := eq_zero_t za
            clear za ma mb hit hal hbl
            go_wp2_with (go_at_call 19; first | (((with_reducible refine (HM1.out _).mono ?_)); rintro e w' ⟨rfl, rfl⟩) | (((with_reducible refine (HM2.out _).mono ?_)); rintro e w' ⟨rfl, rfl⟩))
            clear hw
            go_roundw
            case rel => exact ⟨k + 1, by omega, by omega, by go_num, hq⟩
            case measure => simp [intOf]; omega
          · obtain ⟨ga, fa⟩ := mid_ge ma za
            have ta := eq_zero_f za (Nat.le_of_lt fa)
            by_cases zb : rg b = 0
            · have tb := eq_zero_t zb
              clear za zb ma mb hit hal hbl ga fa
              go_wp2_with (go_at_call 19; first | (((with_reducible refine (HM1.out _).mono ?_)); rintro e w' ⟨rfl, rfl⟩) | (((with_reducible refine (HM2.out _).mono ?_)); rintro e w' ⟨rfl, rfl⟩))
              clear hw
              go_roundw
              case rel => exact ⟨k + 1, by omega, by omega, by go_num, hq⟩
              case measure => simp [intOf]; omega
            · obtain ⟨gb, fb⟩ := mid_ge mb zb
              have tb := eq_zero_f zb (Nat.le_of_lt fb)
              have hne := neigh (a := a) (y := y) hal (nan_false.2 (Nat.le_of_lt fa)) (by omega) (by rw [← hit]; omega) (by rw [← hit]; exact nan_false.2 (Nat.le_of_lt fb))
              rw [← hit] at hne
              obtain ⟨h, mm, hq1, hf1, hor⟩ := mid_law hne.1 hne.2 ga gb fa fb
              have hquo := run_q hq1
              have HFM := Lib.hid (fun W : World => impFMA_fin hf1 W)
              have hcs : (FloatKind.f64.format.order mm a != some .eq) = false ∨ (FloatKind.f64.format.order mm b != some .eq) = false := by
                rcases hor with g | g
                · exact Or.inl (vl_ne g fa)
                · exact Or.inr (vl_ne g fb)
              clear hne hor hq1 hf1 za zb ma mb hit hal hbl ga fa gb fb
              obtain ⟨p1, hp1⟩ : ∃ p, (FloatKind.f64.format.order mm a != some .eq) = p := ⟨_, rfl⟩
              obtain ⟨p2, hp2⟩ : ∃ p, (FloatKind.f64.format.order mm b != some .eq) = p := ⟨_, rfl⟩
              rw [hp1, hp2] at hcs
              cases p1 <;> cases p2
              case true.true => exact absurd hcs (by decide)
              all_goals
                clear hcs
                go_wp2_with (go_at_call 19; first | (((with_reducible refine (HM1.out _).mono ?_)); rintro e w' ⟨rfl, rfl⟩) | (((with_reducible refine (HM2.out _).mono ?_)); rintro e w' ⟨rfl, rfl⟩))
                go_quiet ((go_at_call 35; exact quiet_w (HFM.out _)))
                go_wp2
                clear hw
                go_roundw
                case rel => exact ⟨k + 1, by omega, by omega, by go_num, hq.drewN _⟩
                case measure => simp [intOf]; omega
        · rw [decide_eq_false mb] at HM2
          clear ma mb hit hal hbl
          go_wp2_with (go_at_call 19; first | (((with_reducible refine (HM1.out _).mono ?_)); rintro e w' ⟨rfl, rfl⟩) | (((with_reducible refine (HM2.out _).mono ?_)); rintro e w' ⟨rfl, rfl⟩))
          clear hw
          go_roundw
          case rel => exact ⟨k + 1, by omega, by omega, by go_num, hq⟩
          case measure => simp [intOf]; omega
      · rw [decide_eq_false ma] at HM1
        clear ma hit hal hbl
        go_wp2_with (go_at_call 19; first | (((with_reducible refine (HM1.out _).mono ?_)); rintro e w' ⟨rfl, rfl⟩) | (((with_reducible refine (HM2.out _).mono ?_)); rintro e w' ⟨rfl, rfl⟩))
        clear hw
        go_roundw
        case rel => exact ⟨k + 1, by omega, by omega, by go_num, hq⟩
        case measure => simp [intOf]; omega
    · have hmm : (1 : Int) + (m : Int) = ((m + 1 : Nat) : Int) := by omega
      go_wp2_with (go_at_call 18; ((with_reducible refine (specAt_any _ _ _ (by decide) (by decide)).mono ?_)); rintro e w' ⟨rfl, rfl⟩; rw [HMn.out])
      go_ret
      exact ⟨rfl, hbel.trans (hq.below _)⟩
end Go.Proofs.Ytlpcpoganlmiaaa.LPathMiddle
