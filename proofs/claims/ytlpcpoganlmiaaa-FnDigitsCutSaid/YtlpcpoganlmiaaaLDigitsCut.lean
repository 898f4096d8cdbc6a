/-
  The walk of laws.FnDigitsCut: it returns true, for every word x, all n and k.
-/
import Derived.Test.YtlpcpoganlmiaaaDig
import Derived.Test.YtlpcpoganlmiaaaDgp
import Derived.Test.YtlpcpoganlmiaaaSmi
import Derived.Test.YtlpcpoganlmiaaaSpcC
import Derived.Test.YtlpcpoganlmiaaaLawA
import Derived.Test.YtlpcpoganlmiaaaImf
import Derived.Test.YtlpcpoganlmiaaaLdx
import Derived.Test.YtlpcpoganlmiaaaMid
import Derived.Deep.RegionHeld3
namespace Go.Proofs.Ytlpcpoganlmiaaa.LDigitsCut
open Go.RowKit Flt

theorem dig_take (s : Bool) (n : Nat) {j N : Nat} (h : j ≤ N) : (digL s n N).take j = digL s n j := by
  unfold digL; rw [← List.map_take, List.take_range, Nat.min_eq_left h]
theorem dig_drop (s : Bool) (n : Nat) {j N : Nat} : (digL s n N).drop j = digL s (n % U * 2 ^ j) (N - j) := by
  refine List.ext_getElem? fun i => ?_
  rw [List.getElem?_drop]
  unfold digL
  rw [List.getElem?_map, List.getElem?_map]
  rcases Nat.lt_or_ge (j + i) N with h | h
  · rw [List.getElem?_range h, List.getElem?_range (show i < N - j by omega)]
    show some (sdg s n (j + i + 1)) = some (sdg s (n % U * 2 ^ j) (i + 1))
    rw [sdg_cut s n j (i + 1) (Nat.succ_pos i), Nat.add_assoc]
  · rw [List.getElem?_eq_none (by simpa using h), List.getElem?_eq_none (by simp; omega)]; rfl

set_option maxRecDepth 100000 in
set_option maxHeartbeats 3200000 in
theorem walk_fin (w : World) (x : Nat) (hx : x < 2 ^ 64) (hf : rg x < INF) (n : Int) (k : Int) :
    Calls Try.prog 11 #[.float .f64 x, .int .i64 n, .int .i64 k] w fun e' w' => e' = .returned (.bool true) ∧ Below w.heap.size w w' := by
  have HF := Lib.hid (fun W : World => specFinite_yes x W hf)
  have HMf := Lib.hid (fun W : World => impModf_any x W hx hf)
  have HD := Lib.hid (fun W : World => digits_fin x n W hx hf)
  obtain ⟨N, hN⟩ : ∃ N : Nat, n % 1200 = (N : Int) := ⟨(n % 1200).toNat, by omega⟩
  have hN2 : N < 1200 := by omega
  rw [show (n % 1200).toNat = N by omega] at HD
  have HN := Lib.hid hN
  obtain ⟨T, hT⟩ : ∃ T, min N 1000 = T := ⟨_, rfl⟩
  obtain ⟨j, hj, hj1⟩ : ∃ j : Nat, k % ((T : Int) + 1) = (j : Int) ∧ j ≤ T := by
    have h1 := Int.emod_nonneg k (show ((T : Int) + 1) ≠ 0 by omega)
    have h2 := Int.emod_lt_of_pos k (show (0 : Int) < ((T : Int) + 1) by omega)
    exact ⟨(k % ((T : Int) + 1)).toNat, by omega, by omega⟩
  have hjN : j ≤ N := by omega
  have hj0 : j ≤ 1000 := by omega
  have HJ := Lib.hid hj
  obtain ⟨f1, f2, f3, f4⟩ := ld_frac hf hj0
  have HL := Lib.hid (fun W : World => impLdexp_any (fpart x) ((j : Int) + 4000) W (fpart_lt hf))
  rw [ex_shift (by omega) (by omega)] at HL
  have HD1 := Lib.hid (fun W : World => digits_fin x (j : Int) W hx hf)
  rw [show ((j : Int) % 1200).toNat = j by omega, ← dig_take _ _ hjN] at HD1
  have HD2 := Lib.hid (fun W : World => digits_fin (ld (fpart x) (j : Int)) ((N : Int) - (j : Int)) W f4 f1)
  rw [show (((N : Int) - (j : Int)) % 1200).toNat = N - j by omega, f2, f3, ← dig_drop] at HD2
  have hll : Hid ((digL (sg x) (rv (rg x)) N).length = N) := digL_len _ _ _
  generalize digL (sg x) (rv (rg x)) N = l at *
  generalize ld (fpart x) (j : Int) = z at *
  generalize fpart x = f at *
  generalize ipart x = g at *
  have HLl : Hid ((il l).length = N) := by show _ = _; rw [il_len, hll.out]
  have HLt : Hid ((il (l.take j)).length = j) := by show _ = _; rw [il_len, List.length_take, hll.out]; omega
  have HLd : Hid ((il (l.drop j)).length = N - j) := by show _ = _; rw [il_len, List.length_drop, hll.out]
  clear hN hj f1 f2 f3 f4 hf hx
  go_enter Try.func11, Try.ntmps11
  go_wp2_with fail
  ((with_reducible refine (HD.out _).mono ?_); rintro e' w1 ⟨A, c, rfl, hc, hownD, hbelD⟩)
  rw [HLl.out] at hownD hc ⊢
  have hrD : Rd w1 w1.heap.size A (il l) := by rw [← HLl.out] at hownD; exact Rd.of_own hownD
  have rT := hrD.take j
  rw [il_take] at rT
  have rD := hrD.drop (k := j) (cap := c) (by rw [HLl.out]; exact hc) (by rw [HLl.out]; exact hjN)
  rw [il_drop] at rD
  have HS1 := Lib.hid (fun (w2 : World) (A2 : Option Addr) (c2 : Nat) (hr2 : Rd w2 w2.heap.size A2 (il (l.take j))) (hb : Below w1.heap.size w1 w2) =>
    sameInts_any (l.take j) A2 A c2 c j j w2.heap.size w2 (by rw [List.length_take, hll.out]; omega) (by rw [List.length_take, hll.out]; omega) (by omega) hr2 ((rT.below hb).more hb.size))
  have s1 : ∀ W : World, (Instr.slice 33 (.slice A N c) (some (.int .i64 (j : Int))) none none).run Try.prog W = .ok (.slice (if c = j then A else A.map (·.add j)) (N - j) (c - j)) W := fun W => by
    have hu : Try.prog.underlying 33 = some (.slice (Try.prog.elem 33)) := by kernel_rfl
    have hz : (sizeOf (Try.prog.elem 33)).run Try.prog W = .ok 1 W := by kernel_rfl
    rw [run_slice_l W 33 A N c hu .i64 (j : Int) (by omega) (by omega), hz]
    show Result.ok (sliced A j N c 1) W = _
    unfold sliced
    rw [Nat.mul_one]
  generalize (if c = j then A else A.map (·.add j)) = X at *
  have HS2 := Lib.hid (fun (w2 : World) (A2 : Option Addr) (c2 : Nat) (hr2 : Rd w2 w2.heap.size A2 (il (l.drop j))) (hb : Below w1.heap.size w1 w2) =>
    sameInts_any (l.drop j) A2 X c2 (c - j) (N - j) (N - j) w2.heap.size w2 (by rw [List.length_drop, hll.out]) (by rw [List.length_drop, hll.out]) (by omega) hr2 ((rD.below hb).more hb.size))
  have HB := Lib.hid hbelD
  clear rT rD hrD hownD hbelD
  have i1 : (0 : Int) ≤ (j : Int) := by omega
  have i2 : (j : Int) ≤ (N : Int) := by omega
  have i4 : (j : Int) ≤ (c : Int) := by omega
  have i6 : j ≤ c := by omega
  have hw2 : IntKind.i64.wrap ((N : Int) - (j : Int)) = (N : Int) - (j : Int) := IntWalk.i64_in _ (by omega)
  have hw3 : IntKind.i64.wrap ((j : Int) + 4000) = (j : Int) + 4000 := IntWalk.i64_in _ (by omega)
  rcases (show (1000 < N ∧ T = 1000) ∨ (N ≤ 1000 ∧ T = N) by omega) with ⟨hmm, hTN⟩ | ⟨hmm, hTN⟩
  all_goals
    rw [hTN] at HJ
    clear hT hTN hj1
    go_wp2_with (first | (go_at_call 30; ((with_reducible refine (HF.out _).mono ?_)); rintro e' w' ⟨rfl, rfl⟩) | (go_at_call 18; first | (((with_reducible refine (specAt_any n 1200 _ (by decide) (by decide)).mono ?_)); rintro e' w' ⟨rfl, rfl⟩; rw [HN.out]) | (((with_reducible refine (specAt_any k _ _ (by omega) (by omega)).mono ?_)); rintro e' w' ⟨rfl, rfl⟩; first | rw [HJ.out] | erw [HJ.out])) | (go_at_call 34; ((with_reducible refine (HMf.out _).mono ?_)); rintro e' w' ⟨rfl, rfl⟩))
    have hb1 : Below w1.heap.size w1 w1.drew := (Qt.refl w1).drew.below _
    go_region_held3 (fun w' => Below w1.heap.size w1 w') (first | exact hb5 | exact hb4 | exact hb3 | exact hb2 | exact hb1) (first | (go_at_call 22; first | (((with_reducible refine (HD1.out _).mono ?_)); rintro e' w2 ⟨A2, c2, rfl, _, o2, b2⟩; have hb2 : Below w1.heap.size w1 w2 := hb1.trans b2; have sm1 := Lib.hid (HS1.out w2 A2 c2 (Rd.of_own o2) hb2); rw [HLt.out]; clear o2 b2) | (((with_reducible refine (HD2.out _).mono ?_)); rintro e' w4 ⟨A4, c4, rfl, _, o4, b4⟩; have hb4 : Below w1.heap.size w1 w4 := hb3.trans (b4.mono hb3.size); have sm2 := Lib.hid (HS2.out w4 A4 c4 (Rd.of_own o4) hb4); rw [HLd.out]; clear o4 b4)) | (go_at_call 32; first | (((with_reducible refine sm1.out.mono ?_)); rintro e' w3 ⟨rfl, q3⟩; have hb3 := hb2.trans (q3.below _); clear q3) | (((with_reducible refine sm2.out.mono ?_)); rintro e' w5 ⟨rfl, q5⟩; have hb5 := hb4.trans (q5.below _); clear q5)) | (go_at_call 17; ((with_reducible refine (shift_any _ _ (by omega) (by omega)).mono ?_)); rintro e' w' ⟨rfl, rfl⟩) | (go_at_call 16; ((with_reducible refine (HL.out _).mono ?_)); rintro e' w' ⟨rfl, rfl⟩))
    all_goals
      go_wp2
      go_ret
      exact ⟨rfl, HB.out.trans (hb5.mono HB.out.size)⟩

set_option maxHeartbeats 800000 in
theorem walk (w : World) (x : Nat) (hx : x < 2 ^ 64) (n : Int) (_hn : -9223372036854775808 ≤ n ∧ n ≤ 9223372036854775807) (k : Int) (_hk : -9223372036854775808 ≤ k ∧ k ≤ 9223372036854775807) :
    Calls Try.prog 11 #[.float .f64 x, .int .i64 n, .int .i64 k] w fun e' w' => e' = .returned (.bool true) ∧ Below w.heap.size w w' := by
  by_cases hf : rg x < INF
  · exact walk_fin w x hx hf n k
  · have HF := Lib.hid (fun W : World => specFinite_no x W (by omega))
    have HD := Lib.hid (fun W : World => digits_inf x n W (by omega))
    clear hf hx _hn _hk
    go_enter Try.func11, Try.ntmps11
    go_wp2_with fail
    ((with_reducible refine (HD.out _).mono ?_); rintro e' w1 ⟨A, c, rfl, hc, hownD, hbelD⟩)
    clear hownD hc
    go_wp2_with fail
    ((with_reducible refine (HF.out _).mono ?_); rintro e' w2 ⟨rfl, q2⟩)
    go_wp2
    go_ret
    exact ⟨rfl, hbelD.trans (q2.below _)⟩

end Go.Proofs.Ytlpcpoganlmiaaa.LDigitsCut
