/-
  The walk of laws.FnScaleOrder: it returns true, for every list and every e.
-/
import Derived.Test.YtcgbghmeommmfaaScl
import Derived.Test.YtcgbghmeommmfaaFlo
import Derived.Test.YtcgbghmeommmfaaRow
namespace Go.Proofs.Ytcgbghmeommmfaa.LScaleOrder
open Go.RowKit Flt

theorem impLdexp_one (W : World) : Calls Try.prog 27 #[.float .f64 4607182418800017408, .int .i64 4000] W fun e' w' => e' = .returned (.float .f64 4607182418800017408) ∧ W = w' := by
  have h := impLdexp_any 4607182418800017408 4000 W (by decide)
  have e : ex 4000 = 0 := by decide
  rw [e, ld_zero (by decide)] at h
  exact h
theorem one_eq : (FloatKind.f64.format.order 4607182418800017408 4607182418800017408 == some .eq) = true := by
  rw [c_self']; rfl

/-- the test of the law, at two numbers -/
def leB (a b : Nat) : Bool := FloatKind.f64.format.order a b == some .lt || FloatKind.f64.format.order a b == some .eq
theorem leB_scaled {a b : Nat} (e : Int) (ha : a < 2 ^ 64) (hb : b < 2 ^ 64) (h : leB a b = true) : leB (ld a e) (ld b e) = true := by
  unfold leB at *
  cases h1 : nan a
  · cases h2 : nan b
    · rw [c_le (nan_false.1 h1) (nan_false.1 h2)] at h
      have n1 := nan_ld e ha
      have n2 := nan_ld e hb
      rw [c_le (nan_false.1 (n1.trans h1)) (nan_false.1 (n2.trans h2)), decide_eq_true]
      exact key_ld_mono e ha hb h1 h2 (of_decide_eq_true h)
    · rw [c_nan (Or.inr (nan_true.1 h2))] at h; cases h
  · rw [c_nan (Or.inl (nan_true.1 h1))] at h; cases h

set_option maxHeartbeats 1600000 in
theorem walk_cons (w : World) (A : Addr) (n c : Nat) (l : List Nat) (h : FRow w (some A) n c l) (e : Int) :
    Calls Try.prog 14 #[.slice (some A) n c, .int .i64 e] w fun e' w' => e' = .returned (.bool true) ∧ Below w.heap.size w w' := by
  obtain ⟨hlen, hcap, hroom, hrd, hwd⟩ := h
  have H1 := Lib.hid (fun W : World => impLdexp_one W)
  have o1 := one_eq
  have hlen' := Lib.hid hlen
  have hwd' := Lib.hid hwd
  go_enter Try.func14, Try.ntmps14
  go_wp2_with fail
  refine (scale_any l e (some A) c n w.heap.size w hlen hwd hroom (Nat.le_refl _) hrd).mono ?_
  rintro e' w1 ⟨A2, c2, rfl, hc2, hown, hbel⟩
  have hr2 := Rd.of_own hown
  have hr1 := hrd.below hbel
  have hl2 : (fl (scl e l)).length = n := by rw [fl_len, scl_len, hlen]
  rw [hl2]
  clear hlen hwd hl2 hown hc2 hrd
  go_wp2
  go_loopw [6, 7, 13, 18] (fun _ _ i _ wr => ∃ k : Nat, k ≤ n ∧ i = .int .i64 k ∧ Qt w1 wr) (fun _ _ i _ _ => n - (intOf i).toNat)
  case atStart => exact ⟨0, Nat.zero_le _, rfl, Qt.refl _⟩
  case round =>
    obtain ⟨k, hk, rfl, hq⟩ := hrel
    by_cases hlt : k < n
    · go_wp2
      obtain ⟨wo, rfl⟩ : ∃ wo : World, wo = wr := ⟨_, rfl⟩
      go_loopw [7, 18] (fun _ i wr => ∃ j : Nat, j ≤ n ∧ i = .int .i64 j ∧ Qt w1 wr) (fun _ i _ => n - (intOf i).toNat)
      case atStart => exact ⟨0, Nat.zero_le _, rfl, hq⟩
      case round =>
        obtain ⟨j, hj, rfl, hq2⟩ := hrel
        by_cases hjt : j < n
        · obtain ⟨_, e1, _, c1⟩ := (hr1.qt hq2).fl (k := k) (by rw [hlen'.out]; exact hlt)
          obtain ⟨_, e2, _, c3⟩ := (hr1.qt hq2).fl (k := j) (by rw [hlen'.out]; exact hjt)
          cases e1; cases e2
          obtain ⟨ad, e3, _, c4⟩ := (hr2.qt hq2).fl (k := k) (by rw [scl_len, hlen'.out]; exact hlt)
          obtain ⟨ad', e4, _, c5⟩ := (hr2.qt hq2).fl (k := j) (by rw [scl_len, hlen'.out]; exact hjt)
          rw [e3] at e4
          cases e4
          rw [scl_get (by rw [hlen'.out]; exact hlt)] at c4
          rw [scl_get (by rw [hlen'.out]; exact hjt)] at c5
          have ha := hwd'.out _ (getD_mem l k 0 (by rw [hlen'.out]; exact hlt))
          have hb := hwd'.out _ (getD_mem l j 0 (by rw [hlen'.out]; exact hjt))
          have hle := fun h => leB_scaled (ex e) ha hb h
          generalize l.getD k 0 = a at *
          generalize l.getD j 0 = b at *
          generalize ld a (ex e) = a' at *
          generalize ld b (ex e) = b' at *
          subst e3
          cases ht : leB a b
          · have ht' : (FloatKind.f64.format.order a b == some .lt || FloatKind.f64.format.order a b == some .eq) = false := ht
            clear ht hle ha hb
            go_wp2
            go_quiet (fail)
            go_wp2
            go_roundw
            case rel => exact ⟨j + 1, by omega, by go_num, hq2.drewN _⟩
            case measure => simp [intOf]; omega
          · have ht' : (FloatKind.f64.format.order a b == some .lt || FloatKind.f64.format.order a b == some .eq) = true := ht
            have ht2 : (FloatKind.f64.format.order a' b' == some .lt || FloatKind.f64.format.order a' b' == some .eq) = true := hle ht
            clear ht hle ha hb
            go_wp2
            go_quiet (fail)
            go_wp2
            go_roundw
            case rel => exact ⟨j + 1, by omega, by go_num, hq2.drewN _⟩
            case measure => simp [intOf]; omega
        · go_wp2
          go_roundw
          case rel => exact ⟨k + 1, by omega, by go_num, hq2⟩
          case measure => simp [intOf]; omega
    · go_wp2_with (go_at_call 27; ((with_reducible refine (H1.out _).mono ?_)); rintro e' w' ⟨rfl, rfl⟩)
      go_ret
      exact ⟨rfl, hbel.trans (hq.below _)⟩

set_option maxHeartbeats 800000 in
theorem walk_nil (w : World) (A : Option Addr) (c : Nat) (e : Int) :
    Calls Try.prog 14 #[.slice A 0 c, .int .i64 e] w fun e' w' => e' = .returned (.bool true) ∧ Below w.heap.size w w' := by
  have H1 := Lib.hid (fun W : World => impLdexp_one W)
  have o1 := one_eq
  go_enter Try.func14, Try.ntmps14
  go_wp2_with fail
  refine (scale_nil A e c w).mono ?_
  rintro e' w1 ⟨A2, c2, rfl, hc2, hown, hbel⟩
  rw [List.length_nil]
  clear hown hc2
  go_wp2
  refine wp_loop_rounds 1 ?_
  rw [rounds_succ]
  go_wp2_with (go_at_call 27; ((with_reducible refine (H1.out _).mono ?_)); rintro e' w' ⟨rfl, rfl⟩)
  go_ret
  exact ⟨rfl, hbel⟩

theorem walk (w : World) (A : Option Addr) (n c : Nat) (l : List Nat) (h : FRow w A n c l) (e : Int) (_he : -9223372036854775808 ≤ e ∧ e ≤ 9223372036854775807) :
    Calls Try.prog 14 #[.slice A n c, .int .i64 e] w fun e' w' => e' = .returned (.bool true) ∧ Below w.heap.size w w' := by
  rcases Nat.eq_zero_or_pos n with h0 | h0
  · subst h0; exact walk_nil w A c e
  · obtain ⟨ad, rfl, _, _⟩ := h.reads.fl (k := 0) (by have := h.len; omega)
    exact walk_cons w ad n c l h e
end Go.Proofs.Ytcgbghmeommmfaa.LScaleOrder
