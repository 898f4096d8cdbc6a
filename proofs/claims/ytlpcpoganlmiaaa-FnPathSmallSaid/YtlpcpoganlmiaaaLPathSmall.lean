/-
  The walk of laws.FnPathSmall: it returns true, for every n.
-/
import Derived.Test.YtlpcpoganlmiaaaLdx
import Derived.Test.YtlpcpoganlmiaaaLawA
import Derived.Test.YtlpcpoganlmiaaaMid
import Derived.Test.YtlpcpoganlmiaaaFrp
namespace Go.Proofs.Ytlpcpoganlmiaaa.LPathSmall
open Go.RowKit Flt

theorem ofI64_run (n : Int) (w : World) : (convert 3 24 (.int .i64 n)).run Try.prog w = .ok (.float .f64 (floatOfInt .f64 n)) w :=
  run_convert_int_float w _ _ .i64 .f64 n (by rw [Try.underlying3]; rfl) Try.underlying24

theorem it_small : ∀ i : Nat, i ≤ 1000 → it 4607182418800017408 0 i = i := by
  intro i
  induction i with
  | zero => intro _; rfl
  | succ i ih =>
    intro hi
    show nxt (it 4607182418800017408 0 i) 4607182418800017408 = i + 1
    rw [ih (by omega)]
    have hk : ∀ j : Nat, j ≤ 1000 → key j = (j : Int) := fun j hj => by
      have e : rg j = j := by unfold rg; omega
      have := key_mk false (r := j) (by omega)
      rw [mk_false] at this
      rw [this]; simp
    have hn : nan i = false := by
      rw [nan_false]
      have e : rg i = i := by unfold rg; omega
      have hI := INF_val
      omega
    have ky : key 4607182418800017408 = 4607182418800017408 := rfl
    have hny : nan 4607182418800017408 = false := by decide
    unfold nxt
    rw [hn, hny, hk i (by omega), ky]
    simp only [Bool.or_self, Bool.false_eq_true, if_false]
    by_cases h0 : i = 0
    · subst h0
      rw [if_neg (by omega), if_pos (show ((0 : Nat) : Int) = 0 from rfl)]; rfl
    · rw [if_neg (by omega), if_neg (by omega), if_pos (by omega)]

theorem small_ld {i : Nat} (hi : i ≤ 1000) : floatOfInt .f64 (i : Int) < 2 ^ 64 ∧ ld (floatOfInt .f64 (i : Int)) (-1074) = i := by
  have hF : Fits (i * U) := fits_small (by omega)
  have e : floatOfInt .f64 (i : Int) = wd (i * U) := ofNat_wd (rep_small (by omega)) hF.lt
  rw [e]
  refine ⟨hF.wd_lt, ?_⟩
  by_cases h0 : i = 0
  · subst h0
    rw [Nat.zero_mul, wd_zero]
    exact ld_keep (Or.inl rg_zero)
  · have hw : 0 < wd (i * U) := by
      have h1 := rv_wd hF.rep
      have h2 := Nat.mul_pos (show 0 < i by omega) U_pos
      rcases Nat.eq_zero_or_pos (wd (i * U)) with hz | hz
      · rw [hz, rv_zero] at h1; omega
      · exact hz
    have he := e0_eq
    rw [ld_fin (by rw [hF.rg]; exact hw) hF.fin, hF.sg, hF.rv, lds_of (i * U) (a := 0) (k := e0) (by omega), Nat.pow_zero, Nat.mul_one, U_eq]
    have := ru_scale i 0 e0
    rw [Nat.zero_add] at this
    rw [this, mk_false]
    have h2 : ru i 0 = i := wd_small (by omega)
    have hI := INF_val
    rw [h2]
    exact Nat.min_eq_left (by omega)

set_option maxHeartbeats 1600000 in
theorem walk (w : World) (n : Int) (_hn : -9223372036854775808 ≤ n ∧ n ≤ 9223372036854775807) :
    Calls Try.prog 3 #[.int .i64 n] w fun e w' => e = .returned (.bool true) ∧ Below w.heap.size w w' := by
  have hcv := ofI64_run
  have HP := Lib.hid (path_any 0 4607182418800017408 n w (by decide) (by decide))
  have b1 := Int.emod_nonneg n (show (200 : Int) ≠ 0 by omega)
  have b2 := Int.emod_lt_of_pos n (show (0 : Int) < 200 by omega)
  obtain ⟨m, hm⟩ : ∃ m : Nat, n % 200 = (m : Int) := ⟨(n % 200).toNat, by omega⟩
  have hmb : m < 200 := by omega
  rw [show (n % 200).toNat = m by omega] at HP
  have HM := Lib.hid hm
  clear hm b1 b2
  go_enter Try.func3, Try.ntmps3
  go_wp2_with fail
  ((with_reducible refine HP.out.mono ?_); rintro e w1 ⟨A, c, rfl, hc, hown, hbel⟩)
  have hr := Rd.of_own hown
  rw [pathV_len] at hc ⊢
  clear hown HP hc
  obtain ⟨N, hN⟩ : ∃ N, m + 1 = N := ⟨_, rfl⟩
  have hN1 : (1 : Int) + (m : Int) = (N : Int) := by omega
  rw [hN]
  have HN := Lib.hid hN
  clear hN
  go_wp2
  go_loopw [4, 9] (fun _ i wr => ∃ k : Nat, k ≤ N ∧ i = .int .i64 k ∧ Qt w1 wr) (fun _ i _ => N - (intOf i).toNat)
  case atStart => exact ⟨0, Nat.zero_le _, rfl, Qt.refl _⟩
  case round =>
    obtain ⟨k, hk, rfl, hq⟩ := hrel
    by_cases hlt : k < N
    · obtain ⟨ad, e1, _, c1⟩ := (hr.qt hq).fl (k := k) (by rw [pathW_len]; have := HN.out; omega)
      cases e1
      rw [pathW_get (by have := HN.out; omega), it_small k (by have := HN.out; omega)] at c1
      obtain ⟨l1, l2⟩ := small_ld (i := k) (by have := HN.out; omega)
      have HL := Lib.hid (fun W : World => impLdexp_any (floatOfInt .f64 (k : Int)) 2926 W l1)
      rw [show ex 2926 = -1074 by decide, l2] at HL
      have HS := Lib.hid (fun W : World => shift_any (-1074) W (by omega) (by omega))
      rw [show (-1074 : Int) + 4000 = 2926 from rfl] at HS
      have hne : (FloatKind.f64.format.order k k != some .eq) = false := by
        rw [c_self, nan_false]
        have e : rg k = k := by have := HN.out; unfold rg; omega
        have hI := INF_val
        have := HN.out
        omega
      generalize hfk : floatOfInt .f64 (k : Int) = fk at *
      clear l1 l2
      go_wp2
      go_quiet (first | (go_at_call 17; exact quiet_w (HS.out _)) | (go_at_call 16; exact quiet_w (HL.out _)))
      go_wp2
      go_roundw
      case rel => exact ⟨k + 1, by omega, by go_num, hq.drewN _⟩
      case measure => simp [intOf]; omega
    · go_wp2_with (go_at_call 18; ((with_reducible refine (specAt_any _ _ _ (by decide) (by decide)).mono ?_)); rintro e w' ⟨rfl, rfl⟩; rw [HM.out])
      go_ret
      exact ⟨by simp, hbel.trans (hq.below _)⟩
end Go.Proofs.Ytlpcpoganlmiaaa.LPathSmall
