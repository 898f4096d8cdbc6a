/-
  The walk of laws.FnDigitsValue: it returns true, for every word x and every n.
-/
import Derived.Test.YtlpcpoganlmiaaaDig
import Derived.Test.YtlpcpoganlmiaaaDgp
import Derived.Test.YtlpcpoganlmiaaaImf
import Derived.Test.YtlpcpoganlmiaaaLdx
import Derived.Test.YtlpcpoganlmiaaaMid
import Derived.Test.YtlpcpoganlmiaaaSpcC
import Derived.Test.YtlpcpoganlmiaaaLawA
import Derived.Test.YtlpcpoganlmiaaaOfi
import Derived.Test.YtlpcpoganlmiaaaTlp
namespace Go.Proofs.Ytlpcpoganlmiaaa.LDigitsValue
open Go.RowKit Flt

theorem run_q {op : BinOp} {x y r : Nat} (h : floatBits op .f64 x y = some r) (w : World) : (binOp op 24 (.float .f64 x) (.float .f64 y)).run Try.prog w = .ok (.float .f64 r) w := run_float_arith w op _ .f64 x y r h
theorem one_ld {j : Nat} (hj : 2 ^ j < TOP) : ld 4607182418800017408 ((j : Int) - 1074) = wd (2 ^ j) := by
  have hF : Fits (2 ^ j) := ⟨rep_pow j, hj⟩
  have e : 4607182418800017408 = 1023 * 2 ^ 52 := rfl
  have e1 : rg (1023 * 2 ^ 52) = 1023 * 2 ^ 52 := rfl
  have e2 : sg (1023 * 2 ^ 52) = false := rfl
  rw [e, ld_fin (by rw [e1]; decide) (by rw [e1]; decide), e1, e2]
  obtain ⟨E, hE⟩ : ∃ E, E = 1023 := ⟨_, rfl⟩
  obtain ⟨F, hFE⟩ : ∃ F, F = 51 + E := ⟨_, rfl⟩
  rw [← hE, rv_pow E (by omega), ← hFE, lds_of (2 ^ F) (a := j) (k := F) (by omega)]
  have := ru_scale (2 ^ j) 0 F
  rw [Nat.zero_add, Nat.mul_comm] at this
  rw [this, mk_false]
  exact Nat.min_eq_left (Nat.le_of_lt (wd_fin hF.rep hF.lt))

/-- a natural with a sign -/
def sJ (s : Bool) (n : Nat) : Int := if s then -(n : Int) else (n : Int)
theorem sJ_abs (s : Bool) (n : Nat) : (sJ s n).natAbs = n := by unfold sJ; cases s <;> simp
theorem sJ_zero (s : Bool) : sJ s 0 = 0 := by cases s <;> rfl
/-- halved -/
theorem quo_sw {a : Int} (h : Fits (a.natAbs * 2 ^ 1)) : floatBits .quo .f64 (sw (a * 2)) 4611686018427387904 = some (sw a) := by
  have hF : Fits (a * 2).natAbs := by rw [Int.natAbs_mul]; exact h
  have ha : Fits a.natAbs := h.of_mul
  have e : (4611686018427387904 : Nat) = 1024 * 2 ^ 52 := by decide
  show Ieee.double.div (sw (a * 2)) 4611686018427387904 = _
  rw [e, div_pow (j := 1) (sw_fin hF) (by rw [read_pow (by decide) (by decide)]; rfl), fv_sw hF, sg_sw hF]
  congr 1
  unfold rs sw
  have h1 : (a * 2).natAbs = a.natAbs * 2 ^ 1 := by rw [Int.natAbs_mul]; rfl
  have h2 := ru_scale a.natAbs 0 1
  rw [Nat.zero_add] at h2
  rw [h1, h2]
  have h3 : min (ru a.natAbs 0) INF = wd a.natAbs := Nat.min_eq_left (Nat.le_of_lt (wd_fin ha.rep ha.lt))
  rw [h3]
  congr 1
  by_cases hz : a = 0
  · subst hz; rfl
  · rw [if_neg (by omega), decide_eq_decide]; omega

theorem fits_two {n N i : Nat} (h : Rep n) : Fits (vlu n N i * 2 ^ 1) := ⟨(vlu_rep h N i).mul_pow 1, by
  have h1 := vlu_lt n N i
  have h2 := U_TOP
  omega⟩
theorem fits_one {n N i : Nat} (h : Rep n) : Fits (vlu n N i) := (fits_two h).of_mul
theorem fits_dg (n i : Nat) : Fits (dg n i * U) := by
  have := dg_lt n i
  exact fits_small (by omega)
/-- one round -/
theorem round {s : Bool} {n N k : Nat} (h : Rep n) (hk : k < N) :
    ∃ t, floatBits .add .f64 (sw (sJ s (vlu n N (k + 1)))) (floatOfInt .f64 (sdg s n (k + 1))) = some t ∧ floatBits .quo .f64 t 4611686018427387904 = some (sw (sJ s (vlu n N k))) := by
  have hst := vlu_step (n := n) hk
  have hd := dg_lt n (k + 1)
  have e1 : floatOfInt .f64 (sdg s n (k + 1)) = sw (sJ s (dg n (k + 1) * U)) := by
    have hb := sdg_bd s n (k + 1)
    have e' : sdg s n (k + 1) * (U : Int) = sJ s (dg n (k + 1) * U) := by
      unfold sdg sJ
      cases s
      · simp only [Bool.false_eq_true, if_false, Int.natCast_mul]
      · simp only [if_true, Int.natCast_mul, Int.neg_mul]
    rw [ofInt_sw (by omega), e']
  have e2 : sJ s (vlu n N (k + 1)) + sJ s (dg n (k + 1) * U) = sJ s (vlu n N k) * 2 := by
    unfold sJ
    generalize vlu n N (k + 1) = p at *
    generalize dg n (k + 1) * U = q at *
    generalize vlu n N k = r at *
    cases s
    · simp only [Bool.false_eq_true, if_false]; omega
    · simp only [if_true]; omega
  refine ⟨sw (sJ s (vlu n N k) * 2), ?_, ?_⟩
  · rw [e1, add_sw (by rw [sJ_abs]; exact fits_one h) (by rw [sJ_abs]; exact fits_dg _ _) (by rw [e2, Int.natAbs_mul, sJ_abs]; exact fits_two h), e2]
  · exact quo_sw (by rw [sJ_abs]; exact fits_two h)

/-- what is left, as a word -/
structure Rest (x N r : Nat) (p : Nat) : Prop where
  lt : r < 2 ^ 64
  fin : rg r < INF
  sub : floatBits .sub .f64 (fpart x) (sw (sJ (sg x) (vlu (rv (rg x)) N 0))) = some r
  abs : (FloatKind.f64.format.order (absW r) p == some .lt) = true
  zero : (FloatKind.f64.format.order r 0 == some .eq) = true ∨ ((FloatKind.f64.format.order r 0 == some .eq) = false ∧ N < 1074 ∧ (FloatKind.f64.format.order r 0 == some .lt) = sg x ∧ (FloatKind.f64.format.order x 0 == some .lt) = sg x)
theorem vl_num_fin {r : Nat} {V : Int} (h : vl r = .num V) : rg r < INF ∧ fv r = V := by
  rcases vl_cases r with ⟨_, e⟩ | ⟨_, e⟩ | ⟨h1, e⟩
  · rw [e] at h; cases h
  · rw [e] at h; cases h
  · rw [e] at h; injection h with h; exact ⟨h1, h⟩
theorem abs_fin' {x : Nat} (hf : rg x < INF) : rg (absW x) < INF ∧ fv (absW x) = (rv (rg x) : Int) := by
  unfold absW
  by_cases h : key x < 0
  · rw [if_pos h, mk_false]
    have hl := rg_lt x
    have e1 : rg (rg x) = rg x := rg_self hl
    have e2 : sg (rg x) = false := by have := sg_mk false hl; rwa [mk_false] at this
    refine ⟨by rw [e1]; exact hf, ?_⟩
    unfold fv; rw [e1, e2]; rfl
  · rw [if_neg h]
    refine ⟨hf, ?_⟩
    unfold key at h
    unfold fv
    cases hs : sg x
    · rfl
    · rw [hs] at h
      simp only [if_true] at h ⊢
      have : rg x = 0 := by omega
      rw [this, rv_zero]; rfl
theorem sign_lt {r : Nat} (h : rg r < INF) : (FloatKind.f64.format.order r 0 == some .lt) = decide (fv r < 0) := by
  have hz : fv 0 = 0 := rfl
  rw [c_lt (Nat.le_of_lt h) rg_zero_le, decide_eq_decide, ← fv_lt_iff, hz]
theorem eq_zero' {r : Nat} (h : rg r < INF) : (FloatKind.f64.format.order r 0 == some .eq) = decide (fv r = 0) := by
  have hz : fv 0 = 0 := rfl
  rw [c_eq (Nat.le_of_lt h) rg_zero_le, decide_eq_decide, ← fv_eq_iff, hz]
theorem rest {x N m : Nat} (h : rg x < INF) (hm : m = min N 1074) : ∃ r, Rest x N r (wd (2 ^ (e0 - m))) := by
  have he := e0_eq
  have hrep := (fits_rv h).rep
  have hV := fits_one (N := N) (i := 0) hrep
  have hr := vlu_rest (rv (rg x)) N
  have hmod : rv (rg x) % U % 2 ^ (e0 - N) < 2 ^ (e0 - N) := Nat.mod_lt _ (pow_pos _)
  have hFm := fits_mod (fits_rv h)
  have hrho : Fits (rv (rg x) % U % 2 ^ (e0 - N)) := ⟨(rep_cut hFm.rep).2, Nat.lt_of_le_of_lt (Nat.mod_le _ _) hFm.lt⟩
  have hem : e0 - m = e0 - N := by omega
  have hp : Fits (2 ^ (e0 - N)) := ⟨rep_pow _, pow_TOP (by omega)⟩
  have hsub := sub_fin (fin_fpart h) (sw_fin (show Fits (sJ (sg x) (vlu (rv (rg x)) N 0)).natAbs by rw [sJ_abs]; exact hV))
  have hT : fv (fpart x) - fv (sw (sJ (sg x) (vlu (rv (rg x)) N 0))) = sJ (sg x) (rv (rg x) % U % 2 ^ (e0 - N)) := by
    rw [fv_sw (by rw [sJ_abs]; exact hV)]
    unfold fv sJ
    rw [sg_fpart h, rv_fpart h]
    generalize rv (rg x) % U = F at *
    generalize F % 2 ^ (e0 - N) = rho at *
    generalize vlu (rv (rg x)) N 0 = V at *
    cases sg x
    · simp only [Bool.false_eq_true, if_false]; omega
    · simp only [if_true]; omega
  rw [hT] at hsub
  have hrv0 : rv (rg x) % U % 2 ^ (e0 - N) ≠ 0 → rg x ≠ 0 := fun h1 h2 => by
    rw [h2, rv_zero, Nat.zero_mod, Nat.zero_mod] at h1; exact h1 rfl
  have hN0 : rv (rg x) % U % 2 ^ (e0 - N) ≠ 0 → N < 1074 := fun h1 => by
    rcases Nat.lt_or_ge N 1074 with g | g
    · exact g
    · rw [show e0 - N = 0 by omega, Nat.pow_zero, Nat.mod_one] at h1; exact absurd rfl h1
  generalize rv (rg x) % U % 2 ^ (e0 - N) = rho at *
  refine ⟨rs (sg (fpart x) && !sg (sw (sJ (sg x) (vlu (rv (rg x)) N 0)))) (sJ (sg x) rho) 0, rs_lt _ _ _, ?_, hsub, ?_, ?_⟩
  all_goals
    have hvl := vl_rs (sg (fpart x) && !sg (sw (sJ (sg x) (vlu (rv (rg x)) N 0)))) (sJ (sg x) rho) 0
    rw [rnd_num0 (by rw [sJ_abs]; exact hrho)] at hvl
    have hlt := rs_lt (sg (fpart x) && !sg (sw (sJ (sg x) (vlu (rv (rg x)) N 0)))) (sJ (sg x) rho) 0
    generalize rs (sg (fpart x) && !sg (sw (sJ (sg x) (vlu (rv (rg x)) N 0)))) (sJ (sg x) rho) 0 = r at *
    obtain ⟨f1, f2⟩ := vl_num_fin hvl
  · exact f1
  · obtain ⟨a1, a2⟩ := abs_fin' f1
    have e1 : rv (rg r) = rho := by rw [← fv_natAbs, f2, sJ_abs]
    rw [hem, c_lt (Nat.le_of_lt a1) (Nat.le_of_lt hp.fin), decide_eq_true]
    rw [← fv_lt_iff, a2, hp.fv, e1]
    omega
  · rw [eq_zero' f1, f2]
    by_cases hz : rho = 0
    · left; rw [hz, sJ_zero]; rfl
    · right
      have hx0 := hrv0 hz
      have hfx : fv x ≠ 0 := fun g => hx0 ((fv_zero_iff x).1 g)
      have n0 : sJ (sg x) rho ≠ 0 := fun g => by have := sJ_abs (sg x) rho; rw [g] at this; omega
      refine ⟨decide_eq_false n0, hN0 hz, ?_, ?_⟩
      · rw [sign_lt f1, f2]
        unfold sJ
        cases sg x <;> simp <;> omega
      · rw [sign_lt h, ← fv_sign hfx]

set_option maxRecDepth 100000 in
set_option maxHeartbeats 3200000 in
theorem walk_fin (w : World) (x : Nat) (hx : x < 2 ^ 64) (hf : rg x < INF) (n : Int) :
    Calls Try.prog 12 #[.float .f64 x, .int .i64 n] w fun e' w' => e' = .returned (.bool true) ∧ Below w.heap.size w w' := by
  have HF := Lib.hid (fun W : World => specFinite_yes x W hf)
  have HMf := Lib.hid (fun W : World => impModf_any x W hx hf)
  obtain ⟨N, hN⟩ : ∃ N : Nat, n % 1200 = (N : Int) := ⟨(n % 1200).toNat, by omega⟩
  have hN2 : N < 1200 := by omega
  have HN := Lib.hid hN
  have HD := Lib.hid (fun W : World => digits_fin x (N : Int) W hx hf)
  rw [show ((N : Int) % 1200).toNat = N by omega] at HD
  obtain ⟨m, hm⟩ : ∃ m, m = min N 1074 := ⟨_, rfl⟩
  obtain ⟨r, hR⟩ := rest (x := x) (N := N) hf hm
  have hrep := (fits_rv hf).rep
  have he := e0_eq
  have HL := Lib.hid (fun W : World => impLdexp_any 4607182418800017408 (-(m : Int) + 4000) W (by decide))
  rw [ex_shift (by omega) (by omega), show -(m : Int) = ((e0 - m : Nat) : Int) - 1074 by omega, one_ld (pow_TOP (by omega))] at HL
  rw [show ((e0 - m : Nat) : Int) - 1074 = -(m : Int) by omega] at HL
  have HA := Lib.hid (fun W : World => specAbs_any r W hR.lt (nan_false.2 (Nat.le_of_lt hR.fin)))
  have hsub := run_q hR.sub
  have t1 := hR.abs
  have hor := Lib.hid hR.zero
  have hrd := Lib.hid (fun k (hk : k < N) => round (s := sg x) (n := rv (rg x)) hrep hk)
  have hcv := conv_run
  have hV0 : sw (sJ (sg x) (vlu (rv (rg x)) N N)) = 0 := by rw [vlu_end, sJ_zero, sw_zero]
  have hget : Hid (∀ k, k < N → (digL (sg x) (rv (rg x)) N).getD k 0 = sdg (sg x) (rv (rg x)) (k + 1)) := fun k hk => digL_get hk
  have hll : Hid ((digL (sg x) (rv (rg x)) N).length = N) := digL_len _ _ _
  generalize wd (2 ^ (e0 - m)) = pw at *
  generalize digL (sg x) (rv (rg x)) N = l at *
  generalize fpart x = f at *
  generalize ipart x = g at *
  generalize rv (rg x) = v at *
  generalize absW r = ab at *
  have HLl : Hid ((il l).length = N) := by show _ = _; rw [il_len, hll.out]
  clear hN hR hf hx hrep he
  go_enter Try.func12, Try.ntmps12
  go_wp2_with (first | (go_at_call 30; ((with_reducible refine (HF.out _).mono ?_)); rintro e' w' ⟨rfl, rfl⟩) | (go_at_call 18; ((with_reducible refine (specAt_any n 1200 _ (by decide) (by decide)).mono ?_)); rintro e' w' ⟨rfl, rfl⟩; rw [HN.out]))
  ((with_reducible refine (HD.out _).mono ?_); rintro e' w1 ⟨A, c, rfl, hc, hownD, hbelD⟩)
  rw [HLl.out] at hownD hc ⊢
  have hrD : Rd w1 w1.heap.size A (il l) := by rw [← HLl.out] at hownD; exact Rd.of_own hownD
  have HB := Lib.hid hbelD
  clear hownD hbelD HD hc
  go_wp2
  go_loopw [6, 7] (fun z i wr => ∃ k : Nat, k ≤ N ∧ i = .int .i64 ((k : Int) - 1) ∧ z = .float .f64 (sw (sJ (sg x) (vlu v N k))) ∧ w1 = wr) (fun _ i _ => ((intOf i) + 1).toNat)
  case atStart => exact ⟨N, Nat.le_refl _, by go_num, by rw [hV0], rfl⟩
  case round =>
    obtain ⟨k, hk, rfl, rfl, rfl⟩ := hrel
    cases k with
    | zero =>
      clear hrd hget hcv
      have hk0 : (((0 : Nat) : Int) - 1) = -1 := by omega
      rw [hk0]
      rcases (show (1074 < N ∧ m = 1074) ∨ (N ≤ 1074 ∧ m = N) by omega) with ⟨hmm, hm1⟩ | ⟨hmm, hm1⟩
      all_goals
        rw [hm1] at HL
        clear hm hm1 hk0
        rcases hor.out with z0 | ⟨z0, z1, z2, z3⟩
        all_goals
          first
          | (exfalso; omega)
          | (go_wp2_with (first | (go_at_call 34; ((with_reducible refine (HMf.out _).mono ?_)); rintro e' w' ⟨rfl, rfl⟩) | (go_at_call 33; ((with_reducible refine (HA.out _).mono ?_)); rintro e' w' ⟨rfl, rfl⟩) | (go_at_call 17; ((with_reducible refine (shift_any _ _ (by omega) (by omega)).mono ?_)); rintro e' w' ⟨rfl, rfl⟩) | (go_at_call 16; ((first | with_reducible refine (HL.out _).mono ?_ | refine (HL.out _).mono ?_)); rintro e' w' ⟨rfl, rfl⟩))
             go_ret
             exact ⟨rfl, HB.out⟩)
    | succ k =>
      have hk1 : (((k + 1 : Nat) : Int) - 1) = (k : Int) := by omega
      rw [hk1]
      obtain ⟨ad, e1, _, c1⟩ := hrD.il (k := k) (by rw [hll.out]; omega)
      cases e1
      rw [hget.out k (by omega)] at c1
      obtain ⟨t, t2, t3⟩ := hrd.out k (by omega)
      have u2 := run_q t2
      have u3 := run_q t3
      clear hk1 t2 t3
      generalize sw (sJ (sg x) (vlu v N (k + 1))) = V1 at *
      have hkN : k < N := by omega
      go_wp2
      go_roundw
      case rel => exact ⟨k, by omega, by go_num, rfl, by trivial⟩
      case measure => simp [intOf]

set_option maxHeartbeats 800000 in
theorem walk (w : World) (x : Nat) (hx : x < 2 ^ 64) (n : Int) (_hn : -9223372036854775808 ≤ n ∧ n ≤ 9223372036854775807) :
    Calls Try.prog 12 #[.float .f64 x, .int .i64 n] w fun e' w' => e' = .returned (.bool true) ∧ Below w.heap.size w w' := by
  by_cases hf : rg x < INF
  · exact walk_fin w x hx hf n
  · have HF := Lib.hid (fun W : World => specFinite_no x W (by omega))
    have HD := Lib.hid (fun W : World => digits_inf x n W (by omega))
    clear hf hx _hn
    go_enter Try.func12, Try.ntmps12
    go_wp2_with fail
    ((with_reducible refine (HF.out _).mono ?_); rintro e' w1 ⟨rfl, q1⟩)
    go_wp2_with fail
    ((with_reducible refine (HD.out _).mono ?_); rintro e' w2 ⟨A, c, rfl, hc, hownD, hbelD⟩)
    clear hownD hc
    go_wp2
    go_ret
    exact ⟨rfl, (q1.below _).trans (hbelD.mono (Nat.le_of_eq q1.size.symm))⟩
end Go.Proofs.Ytlpcpoganlmiaaa.LDigitsValue
