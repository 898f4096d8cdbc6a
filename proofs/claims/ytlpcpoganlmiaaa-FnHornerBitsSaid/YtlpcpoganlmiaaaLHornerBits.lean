/-
  The walk of laws.FnHornerBits: it returns true, for every integer.
-/
import Derived.Test.YtlpcpoganlmiaaaDig
import Derived.Test.YtlpcpoganlmiaaaDgp
import Derived.Test.YtlpcpoganlmiaaaHor
import Derived.Test.YtlpcpoganlmiaaaFlz
import Derived.Test.YtlpcpoganlmiaaaLdx
import Derived.Test.YtlpcpoganlmiaaaMid
import Derived.Test.YtlpcpoganlmiaaaLawA
import Derived.Test.YtlpcpoganlmiaaaOfi
namespace Go.Proofs.Ytlpcpoganlmiaaa.LHornerBits
open Go.RowKit Flt

theorem rnd_U (T : Int) : rnd (T * (U : Int)) e0 = rnd T 0 := by
  have h1 : (T * (U : Int)).natAbs = T.natAbs * 2 ^ e0 := by rw [Int.natAbs_mul, Int.natAbs_natCast]; rfl
  have h2 := ru_scale T.natAbs 0 e0
  rw [Nat.zero_add] at h2
  have h3 := mulU_neg T
  unfold rnd
  rw [h1, h2]
  by_cases h : T < 0
  · rw [decide_eq_true h, decide_eq_true (h3.2 h), if_pos h, if_pos (h3.2 h)]
  · rw [decide_eq_false h, decide_eq_false (fun x => h (h3.1 x)), if_neg h, if_neg (fun x => h (h3.1 x))]
theorem vl_int {n : Int} (h : n.natAbs ≤ 2 ^ 53) : vl (floatOfInt .f64 n) = .num (n * (U : Int)) := by
  rw [ofInt_sw h, vl_sw (fits_i h)]
theorem alg (v x c V : Int) : v * V * (x * V) + c * V * V = (v * x + c) * V * V := by
  rw [Int.add_mul, Int.add_mul]
  congr 1
  rw [Int.mul_assoc, Int.mul_assoc, Int.mul_assoc, Int.mul_left_comm V x V]
theorem fm_int {v x c : Int} (h : (v * x + c).natAbs ≤ 2 ^ 53) : fmv (.num (v * (U : Int))) (.num (x * (U : Int))) (.num (c * (U : Int))) = .num ((v * x + c) * (U : Int)) := by
  show rnd (v * (U : Int) * (x * (U : Int)) + c * (U : Int) * (U : Int)) e0 = _
  rw [alg, rnd_U]
  have hF := fits_i h
  have := rnd_exact (sw_fin hF) 0
  rw [fv_sw hF, Int.pow_zero, Int.mul_one] at this
  exact this

/-- the number times 2^-53 -/
theorem down {m : Nat} (hm : m < 2 ^ 53) : sg (ld (wd (m * U)) (-53)) = false ∧ rg (ld (wd (m * U)) (-53)) < INF ∧ rv (rg (ld (wd (m * U)) (-53))) = m * 2 ^ (e0 - 53) ∧ ld (wd (m * U)) (-53) < 2 ^ 64 := by
  have he := e0_eq
  have hF : Fits (m * U) := fits_small (Nat.le_of_lt hm)
  have hl := hF.wd_lt
  have hU : U = 2 ^ (e0 - 53) * 2 ^ 53 := by rw [U_eq, ← Nat.pow_add]; congr 1
  have hG : Fits (m * 2 ^ (e0 - 53)) := by
    have : Fits (m * 2 ^ (e0 - 53) * 2 ^ 53) := by rw [Nat.mul_assoc, ← hU]; exact hF
    exact this.of_mul
  have hrg : rg (ld (wd (m * U)) (-53)) = wd (m * 2 ^ (e0 - 53)) := by
    rcases Nat.eq_zero_or_pos m with h0 | h0
    · subst h0
      rw [Nat.zero_mul, Nat.zero_mul, wd_zero]
      rw [ld_keep (Or.inl rfl)]; rfl
    · have hp : 0 < rg (wd (m * U)) := by
        rw [hF.rg]
        have hU0 := U_pos
        have := (wd_lt_iff rep_zero hF.rep).2 (Nat.mul_pos h0 hU0)
        omega
      rw [ld_fin hp hF.fin, rg_mk _ (min_INF_lt _), hF.rv, lds_of (m * U) (a := 0) (k := 53) (by omega), Nat.pow_zero, Nat.mul_one, hU, ← Nat.mul_assoc]
      have := ru_scale (m * 2 ^ (e0 - 53)) 0 53
      rw [Nat.zero_add] at this
      rw [this]
      show min (wd _) INF = _
      rw [Nat.min_eq_left (Nat.le_of_lt (wd_fin hG.rep hG.lt))]
  refine ⟨by rw [sg_ld _ hl, hF.sg], ?_, ?_, ld_lt _ hl⟩
  · rw [hrg]; exact wd_fin hG.rep hG.lt
  · rw [hrg, rv_wd hG.rep]
/-- a digit of it is a bit of the number -/
theorem dg_m {m k : Nat} (hk : k < 53) : dg (m * 2 ^ (e0 - 53)) (k + 1) = m / 2 ^ (53 - (k + 1)) % 2 := by
  have he := e0_eq
  rw [dg_low (by omega), show e0 - (k + 1) = (53 - (k + 1)) + (e0 - 53) by omega, Nat.pow_add, Nat.mul_div_mul_right _ _ (pow_pos _)]
theorem step {m k : Nat} (hk : k < 53) : m / 2 ^ (53 - (k + 1)) = 2 * (m / 2 ^ (53 - k)) + m / 2 ^ (53 - (k + 1)) % 2 := by
  have : m / 2 ^ (53 - k) = m / 2 ^ (53 - (k + 1)) / 2 := by
    rw [Nat.div_div_eq_div_mul, ← Nat.pow_succ]; congr 2; omega
  rw [this]; omega
theorem vl_two : vl 4611686018427387904 = .num (2 * (U : Int)) := by
  have h : vl (floatOfInt .f64 2) = .num (2 * (U : Int)) := vl_int (by decide)
  rw [← h]; rfl
theorem vl_0 : vl 0 = .num 0 := rfl
theorem hor {m : Nat} (hm : m < 2 ^ 53) : ∀ k, k ≤ 53 → horv (vl 4611686018427387904) (vl 0) ((fls (digL false (m * 2 ^ (e0 - 53)) k)).map vl) = .num (((m / 2 ^ (53 - k) : Nat) : Int) * (U : Int)) := by
  intro k
  induction k with
  | zero =>
    intro _
    show vl 0 = _
    rw [vl_0, Nat.sub_zero, Nat.div_eq_of_lt hm]; simp
  | succ k ih =>
    intro hk
    have h1 := ih (by omega)
    rw [digL_succ]
    unfold fls at h1 ⊢
    rw [List.map_append, List.map_append]
    show horv _ _ (_ ++ [vl (floatOfInt .f64 (sdg false (m * 2 ^ (e0 - 53)) (k + 1)))]) = _
    have hs : sdg false (m * 2 ^ (e0 - 53)) (k + 1) = ((m / 2 ^ (53 - (k + 1)) % 2 : Nat) : Int) := by
      unfold sdg; rw [dg_m (by omega)]; rfl
    have h2 := step (m := m) (k := k) (by omega)
    have hb : m / 2 ^ (53 - (k + 1)) ≤ m := Nat.div_le_self _ _
    rw [horv_snoc, h1, hs, vl_int (by omega), vl_two, fm_int]
    · congr 2
      generalize m / 2 ^ (53 - (k + 1)) = a at *
      generalize m / 2 ^ (53 - k) = b at *
      omega
    · generalize m / 2 ^ (53 - (k + 1)) = a at *
      generalize m / 2 ^ (53 - k) = b at *
      omega
theorem eq_of_vl {a b : Nat} (h : vl a = vl b) (hf : rg b < INF) : (FloatKind.f64.format.order a b == some .eq) = true := by
  rw [vl_fin hf] at h
  rcases vl_cases a with ⟨_, e⟩ | ⟨_, e⟩ | ⟨h1, e⟩
  · rw [e] at h; cases h
  · rw [e] at h; cases h
  · rw [e] at h
    injection h with h
    rw [c_eq (Nat.le_of_lt h1) (Nat.le_of_lt hf), decide_eq_true ((fv_eq_iff a b).1 h)]

set_option maxRecDepth 100000 in
set_option maxHeartbeats 1600000 in
theorem walk (w : World) (n : Int) (_hn : -9223372036854775808 ≤ n ∧ n ≤ 9223372036854775807) :
    Calls Try.prog 5 #[.int .i64 n] w fun e' w' => e' = .returned (.bool true) ∧ Below w.heap.size w w' := by
  have d1 := Int.emod_nonneg n (show (9007199254740992 : Int) ≠ 0 by omega)
  have d2 := Int.emod_lt_of_pos n (show (0 : Int) < 9007199254740992 by omega)
  obtain ⟨m, hm⟩ : ∃ m : Nat, n % 9007199254740992 = (m : Int) := ⟨(n % 9007199254740992).toNat, by omega⟩
  have hm2 : m < 2 ^ 53 := by omega
  have HM := Lib.hid hm
  have hF : Fits (m * U) := fits_small (Nat.le_of_lt hm2)
  have hof : floatOfInt .f64 (m : Int) = wd (m * U) := ofNat_wd (rep_small (Nat.le_of_lt hm2)) hF.lt
  have hcv := conv_run (m : Int)
  rw [hof] at hcv
  obtain ⟨e1, e2, e3, e4⟩ := down hm2
  have HL := Lib.hid (fun W : World => impLdexp_any (wd (m * U)) 3947 W hF.wd_lt)
  rw [show ex 3947 = -53 by decide] at HL
  have HD := Lib.hid (fun W : World => digits_fin (ld (wd (m * U)) (-53)) 53 W e4 e2)
  rw [e1, e3, show ((53 : Int) % 1200).toNat = 53 by decide] at HD
  have hh := hor hm2 53 (Nat.le_refl _)
  rw [Nat.sub_self, Nat.pow_zero, Nat.div_one] at hh
  have hvm : vl (wd (m * U)) = .num ((m : Int) * (U : Int)) := by rw [← hof, vl_int (by omega)]
  have heq := Lib.hid (fun (b : Nat) (hb : vl b = horv (vl 4611686018427387904) (vl 0) ((fls (digL false (m * 2 ^ (e0 - 53)) 53)).map vl)) => eq_of_vl (a := b) (b := wd (m * U)) (by rw [hb, hh, hvm]) hF.fin)
  have hln : Hid ((digL false (m * 2 ^ (e0 - 53)) 53).length = 53) := digL_len _ _ _
  generalize digL false (m * 2 ^ (e0 - 53)) 53 = l at *
  generalize ld (wd (m * U)) (-53) = z at *
  generalize wd (m * U) = x at *
  have HLl : Hid ((il l).length = 53) := by show _ = _; rw [il_len, hln.out]
  have HLf : Hid ((fl (fls l)).length = 53) := by show _ = _; rw [fl_len, fls_len, hln.out]
  clear hm hF hof e1 e2 e3 e4 hh hvm d1 d2 _hn hm2
  go_enter Try.func5, Try.ntmps5
  go_wp2_with (first | (go_at_call 18; ((with_reducible refine (specAt_any _ _ _ (by decide) (by decide)).mono ?_)); rintro e w' ⟨rfl, rfl⟩; rw [HM.out]) | (go_at_call 17; ((with_reducible refine (shift_any _ _ (by omega) (by omega)).mono ?_)); rintro e w' ⟨rfl, rfl⟩) | (go_at_call 16; ((with_reducible refine (HL.out _).mono ?_)); rintro e w' ⟨rfl, rfl⟩))
  ((with_reducible refine (HD.out _).mono ?_); rintro e' w1 ⟨A, c, rfl, _, o1, b1⟩)
  rw [HLl.out] at o1 ⊢
  have r1 : Rd w1 w1.heap.size A (il l) := by rw [← HLl.out] at o1; exact Rd.of_own o1
  have HFL := Lib.hid (floats_any l A c 53 w1.heap.size w1 hln.out (by decide) (Nat.le_refl _) r1)
  clear o1 r1 HD HL
  go_wp2_with fail
  ((with_reducible refine HFL.out.mono ?_); rintro e w2 ⟨A2, c2, rfl, _, o2, b2⟩)
  have r2 := Rd.of_own o2
  rw [HLf.out]
  have HH := Lib.hid (horner_any 0 4611686018427387904 (fls l) A2 c2 53 w2.heap.size w2 (by decide) (by rw [fls_len, hln.out]) (by decide) r2)
  clear o2 r2 HFL
  go_wp2_with fail
  ((with_reducible refine HH.out.mono ?_); rintro e w3 ⟨b3, rfl, v3, l3, q3⟩)
  have he3 := heq.out b3 v3
  clear v3 heq HH
  go_wp2
  go_ret
  exact ⟨rfl, (b1.trans (b2.mono b1.size)).trans (q3.below _)⟩
end Go.Proofs.Ytlpcpoganlmiaaa.LHornerBits
