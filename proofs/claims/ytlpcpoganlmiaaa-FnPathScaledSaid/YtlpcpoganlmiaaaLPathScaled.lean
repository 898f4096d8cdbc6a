/-
  The walk of laws.FnPathScaled: it returns true, for every number, all n, k, and both directions.
-/
import Derived.Test.YtlpcpoganlmiaaaScl
import Derived.Test.YtlpcpoganlmiaaaLawA
import Derived.Test.YtlpcpoganlmiaaaMid
import Derived.Test.YtlpcpoganlmiaaaFrp
namespace Go.Proofs.Ytlpcpoganlmiaaa.LPathScaled
open Go.RowKit Flt

theorem run_q {op : BinOp} {x y r : Nat} (h : floatBits op .f64 x y = some r) (w : World) : (binOp op 24 (.float .f64 x) (.float .f64 y)).run Try.prog w = .ok (.float .f64 r) w := run_float_arith w op _ .f64 x y r h

/-- divided by 0 -/
theorem quo_zero {x : Nat} (h0 : rg x ≠ 0) (hf : rg x < INF) : floatBits .quo .f64 x 0 = some (mk (sg x) INF) := by
  show Ieee.double.div x 0 = _
  obtain ⟨m, e, hr, hm, _, _⟩ := read_fin hf
  have hz : Ieee.double.read 0 = .number false 0 (-1074) := by rfl
  have hm0 : m ≠ 0 := by
    rintro rfl
    rw [Nat.zero_mul] at hm
    have := rv_pos (r := rg x) (by omega)
    omega
  unfold Ieee.Format.div
  rw [hr, hz]
  simp only [Ieee.Datum.quotient]
  rw [if_pos trivial, if_neg hm0, Bool.xor_false]
  cases sg x <;> rfl

/-- the end of the path: infinity with the sign, or 0 -/
def goal (s out : Bool) : Nat := if out then mk s INF else 0
theorem goal_lt (s out : Bool) : goal s out < 2 ^ 64 := by unfold goal; cases out <;> cases s <;> decide

/-- a step away from 0 or towards it, among normal numbers -/
theorem step_rung {x : Nat} {out : Bool} (hx : x < 2 ^ 64) (h1 : 2 ≤ rg x) (h2 : rg x + 1 < INF) : rg (nxt x (goal (sg x) out)) = (if out then rg x + 1 else rg x - 1) ∧ sg (nxt x (goal (sg x) out)) = sg x ∧ nxt x (goal (sg x) out) < 2 ^ 64 := by
  have hI := INF_val
  have hnx : nan x = false := nan_false.2 (by omega)
  have hng : nan (goal (sg x) out) = false := by unfold goal; cases out <;> cases sg x <;> decide
  obtain ⟨k1, n1⟩ := nxt_key (y := goal (sg x) out) hx hnx hng
  have hl := nxt_lt (y := goal (sg x) out) hx
  have ha := key_natAbs (nxt x (goal (sg x) out))
  have hkx : key x = if sg x then -(rg x : Int) else (rg x : Int) := rfl
  have hkg : key (goal (sg x) out) = if out then (if sg x then -(INF : Int) else (INF : Int)) else 0 := by
    unfold goal; cases out <;> cases sg x <;> rfl
  have key_sign : ∀ z : Nat, (key z < 0 → sg z = true) ∧ (0 < key z → sg z = false) := by
    intro z
    unfold key
    cases sg z
    · exact ⟨fun h => by simp at h; omega, fun _ => rfl⟩
    · exact ⟨fun _ => rfl, fun h => by simp at h; omega⟩
  have hs := key_sign (nxt x (goal (sg x) out))
  refine ⟨?_, ?_, hl⟩
  · rw [← ha, k1, hkx, hkg]
    cases out <;> cases hsg : sg x <;> simp only [Bool.false_eq_true, if_false, if_true]
    · rw [stp_gt (by omega)]; omega
    · rw [stp_lt (by omega)]; omega
    · rw [stp_lt (by omega)]; omega
    · rw [stp_gt (by omega)]; omega
  · rw [k1, hkx, hkg] at hs
    cases out <;> cases hsg : sg x <;> rw [hsg] at hs <;> simp only [Bool.false_eq_true, if_false, if_true] at hs
    · rw [stp_gt (by omega)] at hs; exact hs.2 (by omega)
    · rw [stp_lt (by omega)] at hs; exact hs.1 (by omega)
    · rw [stp_lt (by omega)] at hs; exact hs.2 (by omega)
    · rw [stp_gt (by omega)] at hs; exact hs.1 (by omega)

theorem it_rung {x : Nat} {out : Bool} (hx : x < 2 ^ 64) (h1 : 1000 ≤ rg x) (h2 : rg x + 1000 < INF) : ∀ i, i ≤ 200 → rg (it (goal (sg x) out) x i) = (if out then rg x + i else rg x - i) ∧ sg (it (goal (sg x) out) x i) = sg x ∧ it (goal (sg x) out) x i < 2 ^ 64 := by
  intro i
  induction i with
  | zero => intro _; refine ⟨?_, rfl, hx⟩; show rg x = _; cases out <;> simp
  | succ i ih =>
    intro hi
    obtain ⟨r1, r2, r3⟩ := ih (by omega)
    have hb : 2 ≤ rg (it (goal (sg x) out) x i) ∧ rg (it (goal (sg x) out) x i) + 1 < INF := by
      rw [r1]; cases out <;> simp <;> omega
    have := step_rung (out := out) r3 hb.1 hb.2
    rw [r2] at this
    obtain ⟨t1, t2, t3⟩ := this
    refine ⟨?_, t2, t3⟩
    show rg (nxt (it (goal (sg x) out) x i) (goal (sg x) out)) = _
    rw [t1, r1]
    cases out <;> simp <;> omega

theorem law {x : Nat} {out : Bool} {j : Int} (hx : x < 2 ^ 64) (hm : Mid (rg x)) (h0 : rg x ≠ 0) (j1 : -300 ≤ j) (j2 : j ≤ 300) {m : Nat} (hm2 : m < 200) :
    Alls (pathW (goal (sg x) out) (ld x j) m) (scl (j + 4000) (pathW (goal (sg x) out) x m)) := by
  have hI := INF_val
  rcases hm with hm | ⟨m1, m2⟩
  · exact absurd hm h0
  refine ⟨by rw [scl_len, pathW_len, pathW_len], fun k hk => ?_⟩
  rw [pathW_len] at hk
  rw [pathW_get (by omega), scl_get (by rw [pathW_len]; exact hk), pathW_get (by omega), ex_shift (by omega) (by omega)]
  obtain ⟨s, hs⟩ : ∃ s : Nat, (s : Int) = rg x + j * 2 ^ 52 := ⟨(rg x + j * 2 ^ 52 : Int).toNat, by omega⟩
  have e : rg (ld x j) = s := by
    rw [rg_ld j hx]
    exact sl_mid (by omega) (by omega) s (by omega) (by omega) hs
  have es := sg_ld j hx
  have hl := ld_lt j hx
  have a := it_rung (out := out) hl (by omega) (by omega) k (by omega)
  rw [e, es] at a
  have b := it_rung (out := out) hx (by omega) (by omega) k (by omega)
  obtain ⟨a1, a2, a3⟩ := a
  obtain ⟨b1, b2, b3⟩ := b
  have hq : it (goal (sg x) out) (ld x j) k = ld (it (goal (sg x) out) x k) j := by
    rw [← mk_of a3, ← mk_of (ld_lt j b3), a1, a2, sg_ld j b3, b2, rg_ld j b3, b1]
    congr 1
    symm
    refine sl_mid ?_ ?_ _ ?_ ?_ ?_ <;> cases out <;> simp <;> omega
  rw [hq]
  exact same_refl _

theorem chain {w w1 w2 w3 w4 : World} (b1 : Below w.heap.size w w1) (b2 : Below w1.heap.size w1 w2) (b3 : Below w2.heap.size w2 w3) (q4 : Qt w3 w4) : Below w.heap.size w w4 := by
  have s1 := b1.size; have s2 := b2.size
  exact ((b1.trans (b2.mono s1)).trans (b3.mono (by omega))).trans (q4.below _)

set_option maxRecDepth 100000 in
set_option maxHeartbeats 1600000 in
theorem walk_mid (w : World) (x : Nat) (hx : x < 2 ^ 64) (n : Int) (k : Int) (out : Bool) (hm : Mid (rg x)) (h0 : rg x ≠ 0) :
    Calls Try.prog 4 #[.float .f64 x, .int .i64 n, .int .i64 k, .bool out] w fun e w' => e = .returned (.bool true) ∧ Below w.heap.size w w' := by
  have hI := INF_val
  have hfin : rg x < INF := by rcases hm with h | ⟨_, h⟩ <;> omega
  have HMid := Lib.hid (fun W : World => middle_any x W hx)
  rw [decide_eq_true hm] at HMid
  have b0 : (FloatKind.f64.format.order x 0 == some .eq) = false := by
    have hk : key x ≠ 0 := by have := key_natAbs x; omega
    rw [c_eq (Nat.le_of_lt hfin) rg_zero_le, key_zero, decide_eq_false hk]
  have hquo := run_q (quo_zero h0 hfin)
  obtain ⟨j, hj⟩ : ∃ j : Int, k % 601 - 300 = j := ⟨_, rfl⟩
  have d1 := Int.emod_nonneg k (show (601 : Int) ≠ 0 by omega)
  have d2 := Int.emod_lt_of_pos k (show (0 : Int) < 601 by omega)
  have j1 : -300 ≤ j := by omega
  have j2 : j ≤ 300 := by omega
  have hJ := Lib.hid hj
  have c1 := Int.emod_nonneg n (show (200 : Int) ≠ 0 by omega)
  have c2 := Int.emod_lt_of_pos n (show (0 : Int) < 200 by omega)
  obtain ⟨m, hmn⟩ : ∃ m : Nat, n % 200 = (m : Int) := ⟨(n % 200).toNat, by omega⟩
  have hmb : m < 200 := by omega
  have HMn := Lib.hid hmn
  have hmt : (n % 200).toNat = m := by omega
  have HAl := Lib.hid (law (out := out) hx hm h0 j1 j2 hmb)
  have HL := Lib.hid (fun W : World => impLdexp_any x (j + 4000) W hx)
  rw [ex_shift (by omega) (by omega)] at HL
  have HP := Lib.hid (fun W : World => path_any x (goal (sg x) out) n W hx (goal_lt _ _))
  have HP2 := Lib.hid (fun W : World => path_any (ld x j) (goal (sg x) out) n W (ld_lt j hx) (goal_lt _ _))
  rw [hmt] at HP HP2
  have hwd := Lib.hid (show ∀ b ∈ pathW (goal (sg x) out) x m, b < 2 ^ 64 from fun b hb => by
    unfold pathW at hb
    obtain ⟨i, _, rfl⟩ := List.mem_map.1 hb
    exact it_lt _ hx i)
  have hg : Hid (goal (sg x) out = if out then mk (sg x) INF else 0) := rfl
  generalize ld x j = z at *
  generalize mk (sg x) INF = gi at *
  generalize goal (sg x) out = go at *
  clear hj hmn hmt hm h0 hfin hI hx c1 c2
  cases out
  all_goals
    first | (obtain rfl : go = 0 := hg.out) | (obtain rfl : go = gi := hg.out)
    clear hg
    go_enter Try.func4, Try.ntmps4
    go_wp2_with (first | (go_at_call 19; ((with_reducible refine (HMid.out _).mono ?_)); rintro e w' ⟨rfl, rfl⟩) | (go_at_call 18; ((with_reducible refine (specAt_any _ _ _ (by decide) (by decide)).mono ?_)); rintro e w' ⟨rfl, rfl⟩))
    rw [hJ.out]
    clear d1 d2
    ((with_reducible refine (shift_any _ _ (by omega) (by omega)).mono ?_); rintro e w' ⟨rfl, rfl⟩)
    go_wp2_with fail
    ((with_reducible refine (HP.out _).mono ?_); rintro e w1 ⟨A, c, rfl, hc, hown, hbel⟩)
    have hr := Rd.of_own hown
    rw [pathV_len]
    clear hown hc
    have hmm : (1 : Int) + (m : Int) = ((m + 1 : Nat) : Int) := by omega
    go_wp2_with (go_at_call 18; ((with_reducible refine (specAt_any _ _ _ (by decide) (by decide)).mono ?_)); rintro e w' ⟨rfl, rfl⟩; rw [HMn.out])
    ((with_reducible refine (HL.out _).mono ?_); rintro e w' ⟨rfl, rfl⟩)
    go_wp2_with fail
    ((with_reducible refine (HP2.out _).mono ?_); rintro e w2 ⟨A2, c2, rfl, hc2, hown2, hbel2⟩)
    have hr2 := Rd.of_own hown2
    have hr' := (hr.below hbel2).more hbel2.size
    rw [pathV_len]
    clear hown2 hc2 hr
    have HSc := Lib.hid (scale_any _ (j + 4000) A c (m + 1) w2.heap.size w2 (pathW_len _ _ m) hwd.out (by omega) (Nat.le_refl _) hr')
    go_wp2_with fail
    ((with_reducible refine HSc.out.mono ?_); rintro e w3 ⟨A3, c3, rfl, hc3, hown3, hbel3⟩)
    have hr3 := Rd.of_own hown3
    have hr2' := (hr2.below hbel3).more hbel3.size
    have hl3 : Hid (∀ y : Nat, (scl (j + 4000) (pathW y x m)).length = m + 1) := fun y => by rw [scl_len, pathW_len]
    have HS := Lib.hid (sameAll_any _ _ A2 A3 c2 c3 (m + 1) (m + 1) w3.heap.size w3 (pathW_len _ _ m) (hl3.out _) (by omega) hr2' hr3 HAl.out)
    rw [fl_len, hl3.out]
    clear hown3 hc3 hr2 HSc hr' hr3 hr2'
    go_wp2_with fail
    ((with_reducible refine HS.out.mono ?_); rintro e w4 ⟨rfl, q4⟩)
    go_wp2
    go_ret
    exact ⟨rfl, chain hbel hbel2 hbel3 q4⟩

set_option maxHeartbeats 800000 in
theorem walk_not (w : World) (x : Nat) (hx : x < 2 ^ 64) (n : Int) (k : Int) (out : Bool) (hm : ¬ (Mid (rg x) ∧ rg x ≠ 0)) :
    Calls Try.prog 4 #[.float .f64 x, .int .i64 n, .int .i64 k, .bool out] w fun e w' => e = .returned (.bool true) ∧ Below w.heap.size w w' := by
  have HMid := Lib.hid (fun W : World => middle_any x W hx)
  by_cases h0 : rg x = 0
  · have b0 : (FloatKind.f64.format.order x 0 == some .eq) = true := by
      have hk : key x = 0 := by have := key_natAbs x; omega
      rw [c_eq (by rw [h0]; exact Nat.zero_le _) rg_zero_le, key_zero, decide_eq_true hk]
    clear h0 hm hx
    go_enter Try.func4, Try.ntmps4
    go_wp2_with (go_at_call 19; ((with_reducible refine (HMid.out _).mono ?_)); rintro e w' ⟨rfl, rfl⟩)
    go_ret
    exact ⟨rfl, Below.refl _ _⟩
  · have h : ¬ Mid (rg x) := fun h => hm ⟨h, h0⟩
    rw [decide_eq_false h] at HMid
    have b0 : (FloatKind.f64.format.order x 0 == some .eq) = false := by
      rcases Nat.lt_or_ge INF (rg x) with h1 | h1
      · rw [c_nan (Or.inl h1)]; rfl
      · have hk : key x ≠ 0 := by have := key_natAbs x; omega
        rw [c_eq h1 rg_zero_le, key_zero, decide_eq_false hk]
    clear h h0 hm hx
    go_enter Try.func4, Try.ntmps4
    go_wp2_with (go_at_call 19; ((with_reducible refine (HMid.out _).mono ?_)); rintro e w' ⟨rfl, rfl⟩)
    go_ret
    exact ⟨rfl, Below.refl _ _⟩

theorem walk (w : World) (x : Nat) (hx : x < 2 ^ 64) (n : Int) (_hn : -9223372036854775808 ≤ n ∧ n ≤ 9223372036854775807) (k : Int) (_hk : -9223372036854775808 ≤ k ∧ k ≤ 9223372036854775807) (out : Bool) :
    Calls Try.prog 4 #[.float .f64 x, .int .i64 n, .int .i64 k, .bool out] w fun e w' => e = .returned (.bool true) ∧ Below w.heap.size w w' := by
  by_cases hm : Mid (rg x) ∧ rg x ≠ 0
  · exact walk_mid w x hx n k out hm.1 hm.2
  · exact walk_not w x hx n k out hm
end Go.Proofs.Ytlpcpoganlmiaaa.LPathScaled
