/-
  The walk of laws.FnPowersOne: it returns true, for every k.
-/
import Derived.Test.YtlpcpoganlmiaaaPow
import Derived.Test.YtlpcpoganlmiaaaSmi
import Derived.Test.YtlpcpoganlmiaaaLdx
import Derived.Test.YtlpcpoganlmiaaaLawA
import Derived.Test.YtlpcpoganlmiaaaMid
namespace Go.Proofs.Ytlpcpoganlmiaaa.LPowersOne
open Go.RowKit Flt

theorem one_ld {j : Nat} (hj : 2 ^ j < TOP) : ld 4607182418800017408 ((j : Int) - 1074) = wd (2 ^ j) := by
  have hF : Fits (2 ^ j) := ⟨rep_pow j, hj⟩
  have e : 4607182418800017408 = 1023 * 2 ^ 52 := rfl
  have e1 : rg (1023 * 2 ^ 52) = 1023 * 2 ^ 52 := rfl
  have e2 : sg (1023 * 2 ^ 52) = false := rfl
  rw [e, ld_fin (by rw [e1]; decide) (by rw [e1]; decide), e1, e2]
  obtain ⟨E, hE⟩ : ∃ E, E = 1023 := ⟨_, rfl⟩
  obtain ⟨F, hFE⟩ : ∃ F, F = 51 + E := ⟨_, rfl⟩
  rw [← hE, rv_pow E (by omega), ← hFE, lds_of (2 ^ F) (a := j) (k := F) (by omega)]
  have := ru_scale (2 ^ j) 0 F
  rw [Nat.zero_add, Nat.mul_comm] at this
  rw [this, mk_false]
  exact Nat.min_eq_left (Nat.le_of_lt (wd_fin hF.rep hF.lt))

theorem law {j : Nat} (hj : j ≤ 2097) : ld 4607182418800017408 ((j : Int) - 1074) < 2 ^ 64 ∧ pwW (ld 4607182418800017408 ((j : Int) - 1074)) = [(j : Int) - 1074] := by
  have he := e0_eq
  have hF : Fits (2 ^ j) := ⟨rep_pow j, pow_TOP (by omega)⟩
  rw [one_ld hF.lt]
  refine ⟨hF.wd_lt, ?_⟩
  unfold pwW
  rw [if_pos hF.fin, hF.rv, pws_pow]
  rfl

theorem rd_lit (w : World) (k : Int) (t : TypeId) : Rd (w.alloc (.cells #[.int .i64 k] t)) (w.alloc (.cells #[.int .i64 k] t)).heap.size (some ⟨w.heap.size, 0, none⟩) (il [k]) := by
  intro j u hu
  match j, hu with
  | 0, hu =>
    simp [il] at hu
    subst hu
    exact ⟨_, rfl, by simp, by simp [Addr.add]⟩

set_option maxHeartbeats 800000 in
theorem walk (w : World) (k : Int) (_hk : -9223372036854775808 ≤ k ∧ k ≤ 9223372036854775807) :
    Calls Try.prog 8 #[.int .i64 k] w fun e w' => e = .returned (.bool true) ∧ Below w.heap.size w w' := by
  have b1 := Int.emod_nonneg k (show (2098 : Int) ≠ 0 by omega)
  have b2 := Int.emod_lt_of_pos k (show (0 : Int) < 2098 by omega)
  obtain ⟨j, hj⟩ : ∃ j : Nat, k % 2098 = (j : Int) := ⟨(k % 2098).toNat, by omega⟩
  have hjb : j ≤ 2097 := by omega
  obtain ⟨l1, l2⟩ := law hjb
  have HL := Lib.hid (fun W : World => impLdexp_any 4607182418800017408 ((j : Int) - 1074 + 4000) W (by decide))
  rw [ex_shift (by omega) (by omega)] at HL
  have HP := Lib.hid (fun W : World => powers_any (ld 4607182418800017408 ((j : Int) - 1074)) W l1)
  rw [l2] at HP
  have hJ := Lib.hid hj
  generalize ld 4607182418800017408 ((j : Int) - 1074) = z at *
  clear hj b1 b2 l1 l2
  go_enter Try.func8, Try.ntmps8
  go_wp2_with fail
  ((with_reducible refine (specAt_any _ _ _ (by decide) (by decide)).mono ?_); rintro e w' ⟨rfl, rfl⟩)
  rw [hJ.out]
  clear hJ
  go_wp2_with fail
  ((with_reducible refine (shift_any _ _ (by omega) (by omega)).mono ?_); rintro e w' ⟨rfl, rfl⟩)
  go_wp2_with fail
  ((with_reducible refine (HL.out _).mono ?_); rintro e w' ⟨rfl, rfl⟩)
  go_wp2_with fail
  ((with_reducible refine (HP.out _).mono ?_); rintro e w1 ⟨A, c, rfl, hc, hown, hbel⟩)
  have hr := (Rd.of_own hown).alloc (Nat.le_refl _) (.cells #[.int .i64 ((j : Int) - 1074)] 3)
  have hlt := rd_lit w1 ((j : Int) - 1074) 3
  rw [show (il [(j : Int) - 1074]).length = 1 from rfl]
  have HS := Lib.hid (sameInts_any [(j : Int) - 1074] A (some ⟨w1.heap.size, 0, none⟩) c 1 1 1 _ _ rfl rfl (by decide) (hr.more (by simp)) hlt)
  clear hown hr hlt HP HL
  go_wp2_with fail
  ((with_reducible refine HS.out.mono ?_); rintro e w2 ⟨rfl, hq⟩)
  go_wp2
  go_ret
  exact ⟨rfl, (hbel.alloc hbel.size _).trans (hq.below _)⟩
end Go.Proofs.Ytlpcpoganlmiaaa.LPowersOne
