/-
  The walk of laws.FnPathTowards: it returns true, for all words x, y and every n.
-/
import Derived.Test.YtcgbghmeommmfaaLawA
import Derived.Test.YtcgbghmeommmfaaPth
namespace Go.Proofs.Ytcgbghmeommmfaa.LPathTowards
open Go.RowKit Flt

set_option maxHeartbeats 3200000 in
theorem walk (w : World) (x : Nat) (hx : x < 2 ^ 64) (y : Nat) (hy : y < 2 ^ 64) (n : Int) (_hn : -9223372036854775808 ≤ n ∧ n ≤ 9223372036854775807) :
    Calls Try.prog 7 #[.float .f64 x, .float .f64 y, .int .i64 n] w fun e w' => e = .returned (.bool true) ∧ Below w.heap.size w w' := by
  go_enter Try.func7, Try.ntmps7
  go_wp2_with fail
  refine (path_any _ _ _ _ hx hy).mono ?_
  have hm200 : (n % 200).toNat < 200 := by omega
  have hmi : n % 200 = ((n % 200).toNat : Int) := by omega
  generalize (n % 200).toNat = m at *
  have hM := Lib.hid hmi
  clear hmi
  rintro e w1 ⟨A, c, rfl, hc, hown, hbel⟩
  have hr := Rd.of_own hown
  rw [pathV_len] at *
  clear hown
  obtain ⟨N, hN⟩ : ∃ N, m + 1 = N := ⟨_, rfl⟩
  rw [hN] at hc ⊢
  have HN := Lib.hid hN
  have hw2 : 1 + (m : Int) = (N : Int) := by omega
  have hw3 : (1 : Int) + (m : Int) ≤ 9223372036854775807 := by omega
  have hN2 : N ≤ 200 := by omega
  clear hN
  obtain ⟨ad, rfl, _, c1⟩ := hr.fl (k := 0) (by rw [pathW_len]; omega)
  rw [pathW_get (by omega)] at c1
  have c1' : w1.cell? ad = some (.float .f64 x) := by have e : it y x 0 = x := rfl; rw [e] at c1; simpa [Addr.add] using c1
  have hsx := same_refl x
  clear c1
  go_wp2_with fail
  refine (specAt_any _ _ _ (by decide) (by decide)).mono ?_
  rintro e w2 ⟨rfl, rfl⟩
  rw [hM.out]
  have hC := Lib.hid (fun W : World => same_any x x W)
  rw [hsx] at hC
  clear hsx hM
  go_wp2_with (go_at_call 17; ((with_reducible refine (hC.out _).mono ?_)); rintro e w2 ⟨rfl, rfl⟩)
  have s1 := c_self x
  have s2 := c_self y
  clear hC hw2 hw3 c1'
  cases hnx : nan x
  · rw [hnx] at s1
    cases hny : nan y
    · rw [hny] at s2
      go_loopw [8, 9, 10] (fun i _ _ wr => ∃ k : Nat, 1 ≤ k ∧ k ≤ N ∧ i = .int .i64 k ∧ Qt w1 wr) (fun i _ _ _ => N - (intOf i).toNat)
      case atStart => exact ⟨1, by omega, by have := HN.out; omega, rfl, Qt.refl _⟩
      case round =>
        obtain ⟨k, hk1, hk, rfl, hq⟩ := hrel
        by_cases hlt : k < N
        · obtain ⟨j, hj⟩ : ∃ j, j + 1 = k := ⟨k - 1, by omega⟩
          obtain ⟨ad1, e1, _, c2⟩ := (hr.qt hq).fl (k := k) (by rw [pathW_len]; have := HN.out; omega)
          obtain ⟨ad2, e2, _, c3⟩ := (hr.qt hq).fl (k := j) (by rw [pathW_len]; have := HN.out; omega)
          cases e1; cases e2
          rw [pathW_get (by have := HN.out; omega)] at c2 c3
          have hit : it y x k = nxt (it y x j) y := by rw [← hj]; rfl
          obtain ⟨_, na⟩ := it_key hx hnx hny j
          obtain ⟨_, nb⟩ := it_key hx hnx hny k
          have ra := nan_false.1 na
          have rb := nan_false.1 nb
          have ry := nan_false.1 hny
          obtain ⟨t1, t2, t3⟩ := nxt_towards (it_lt y hx j) na hny
          rw [← hit] at t1 t2 t3
          have q1 := c_eq ra ry
          have q2 := c_ne rb ry
          have q3 := c_lt ra ry
          have q4 := c_le rb ra
          have q5 := c_gt rb ry
          have q6 := c_ge rb ra
          have q7 := c_lt rb ry
          have hw : IntKind.i64.wrap ((k : Int) - 1) = (j : Int) := by rw [IntWalk.i64_in _ (by omega)]; omega
          have hjN : j < N := by omega
          generalize it y x k = b at *
          generalize it y x j = a at *
          have hj' := Lib.hid hj
          clear hj hit
          rcases Int.lt_trichotomy (key a) (key y) with hc1 | hc1 | hc1
          · obtain ⟨t4, t5⟩ := t2 hc1
            rw [decide_eq_false (by omega)] at q1 q4 q5
            rw [decide_eq_true hc1] at q3
            clear q2 q6 q7 t1 t2 t3 t4 t5 hc1 ra rb na nb
            go_wp2
            go_quiet (fail)
            clear hw
            go_wp2
            go_roundw
            case rel => exact ⟨k + 1, by omega, by omega, by go_num, hq.drewN _⟩
            case measure => simp [intOf]; omega
          · have t4 := t1 hc1
            rw [decide_eq_true hc1] at q1
            rw [decide_eq_false (by omega)] at q2
            clear q3 q4 q5 q6 q7 t1 t2 t3 t4 hc1 ra rb na nb
            go_wp2
            go_quiet (fail)
            clear hw
            go_wp2
            go_roundw
            case rel => exact ⟨k + 1, by omega, by omega, by go_num, hq.drewN _⟩
            case measure => simp [intOf]; omega
          · obtain ⟨t4, t5⟩ := t3 hc1
            rw [decide_eq_false (by omega)] at q1 q3 q6 q7
            clear q2 q4 q5 t1 t2 t3 t4 t5 hc1 ra rb na nb
            go_wp2
            go_quiet (fail)
            clear hw
            go_wp2
            go_roundw
            case rel => exact ⟨k + 1, by omega, by omega, by go_num, hq.drewN _⟩
            case measure => simp [intOf]; omega
        · go_wp2
          go_ret
          exact ⟨rfl, hbel.trans (hq.below _)⟩
    · rw [hny] at s2
      have hnan : nan x = true ∨ nan y = true := Or.inr hny
      clear hnx hny
      go_loopw [8, 9, 10] (fun i _ _ wr => ∃ k : Nat, 1 ≤ k ∧ k ≤ N ∧ i = .int .i64 k ∧ Qt w1 wr) (fun i _ _ _ => N - (intOf i).toNat)
      case atStart => exact ⟨1, by omega, by have := HN.out; omega, rfl, Qt.refl _⟩
      case round =>
        obtain ⟨k, hk1, hk, rfl, hq⟩ := hrel
        by_cases hlt : k < N
        · obtain ⟨j, hj⟩ : ∃ j, j + 1 = k := ⟨k - 1, by omega⟩
          obtain ⟨ad1, e1, _, c2⟩ := (hr.qt hq).fl (k := k) (by rw [pathW_len]; have := HN.out; omega)
          obtain ⟨ad2, e2, _, c3⟩ := (hr.qt hq).fl (k := j) (by rw [pathW_len]; have := HN.out; omega)
          cases e1; cases e2
          rw [pathW_get (by have := HN.out; omega)] at c2 c3
          have hit : it y x k = nxt (it y x j) y := by rw [← hj]; rfl
          have hnb : (FloatKind.f64.format.order (it y x k) (it y x k) == some .eq) = false := by rw [c_self', ← hj, it_nan hnan j]; rfl
          have hw : IntKind.i64.wrap ((k : Int) - 1) = (j : Int) := by rw [IntWalk.i64_in _ (by omega)]; omega
          have hjN : j < N := by omega
          generalize it y x k = b at *
          generalize it y x j = a at *
          have hj' := Lib.hid hj
          clear hj hit
          go_wp2
          go_quiet (fail)
          clear hw
          go_wp2
          go_roundw
          case rel => exact ⟨k + 1, by omega, by omega, by go_num, hq.drewN _⟩
          case measure => simp [intOf]; omega
        · go_wp2
          go_ret
          exact ⟨rfl, hbel.trans (hq.below _)⟩
  · rw [hnx] at s1
    have hnan : nan x = true ∨ nan y = true := Or.inl hnx
    clear hnx s2
    go_loopw [8, 9, 10] (fun i _ _ wr => ∃ k : Nat, 1 ≤ k ∧ k ≤ N ∧ i = .int .i64 k ∧ Qt w1 wr) (fun i _ _ _ => N - (intOf i).toNat)
    case atStart => exact ⟨1, by omega, by have := HN.out; omega, rfl, Qt.refl _⟩
    case round =>
      obtain ⟨k, hk1, hk, rfl, hq⟩ := hrel
      by_cases hlt : k < N
      · obtain ⟨j, hj⟩ : ∃ j, j + 1 = k := ⟨k - 1, by omega⟩
        obtain ⟨ad1, e1, _, c2⟩ := (hr.qt hq).fl (k := k) (by rw [pathW_len]; have := HN.out; omega)
        obtain ⟨ad2, e2, _, c3⟩ := (hr.qt hq).fl (k := j) (by rw [pathW_len]; have := HN.out; omega)
        cases e1; cases e2
        rw [pathW_get (by have := HN.out; omega)] at c2 c3
        have hit : it y x k = nxt (it y x j) y := by rw [← hj]; rfl
        have hnb : (FloatKind.f64.format.order (it y x k) (it y x k) == some .eq) = false := by rw [c_self', ← hj, it_nan hnan j]; rfl
        have hw : IntKind.i64.wrap ((k : Int) - 1) = (j : Int) := by rw [IntWalk.i64_in _ (by omega)]; omega
        have hjN : j < N := by omega
        generalize it y x k = b at *
        generalize it y x j = a at *
        have hj' := Lib.hid hj
        clear hj hit
        go_wp2
        go_quiet (fail)
        clear hw
        go_wp2
        go_roundw
        case rel => exact ⟨k + 1, by omega, by omega, by go_num, hq.drewN _⟩
        case measure => simp [intOf]; omega
      · go_wp2
        go_ret
        exact ⟨rfl, hbel.trans (hq.below _)⟩
end Go.Proofs.Ytcgbghmeommmfaa.LPathTowards
