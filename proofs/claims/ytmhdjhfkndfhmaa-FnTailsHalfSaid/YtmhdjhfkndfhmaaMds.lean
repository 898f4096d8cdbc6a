/-
  Contract of laws.middles.
-/
import Derived.Test.YtmhdjhfkndfhmaaMid
import Derived.Test.YtmhdjhfkndfhmaaMem
namespace Go.Proofs.Ytmhdjhfkndfhmaa
open Go.RowKit Flt

/-- from 2^-101 to 2^101 in absolute value -/
def Mds (r : Nat) : Prop := 922 * 2 ^ 52 ≤ r ∧ r ≤ 1124 * 2 ^ 52
instance (r : Nat) : Decidable (Mds r) := by unfold Mds; exact inferInstance

theorem abs_mds (b : Nat) (hb : b < 2 ^ 64) : ∃ (a : Nat) (p1 p2 : Bool), (∀ W : World, Calls Try.prog 15 #[.float .f64 b] W fun e w' => e = .returned (.float .f64 a) ∧ W = w') ∧
    (FloatKind.f64.format.order a 4152318856435597312 == some .gt || FloatKind.f64.format.order a 4152318856435597312 == some .eq) = p1 ∧
    (FloatKind.f64.format.order a 5062045981164437504 == some .lt || FloatKind.f64.format.order a 5062045981164437504 == some .eq) = p2 ∧ decide (Mds (rg b)) = (p1 && p2) := by
  have hl := rg_lt b
  cases hn : nan b
  · have hr := nan_false.1 hn
    by_cases hz : rg b = 0
    · have hk : key b = 0 := by have := key_natAbs b; omega
      refine ⟨b, false, true, fun W => ?_, ?_, ?_, ?_⟩
      · have := specAbs_any b W hb hn
        rw [show absW b = b by unfold absW; rw [if_neg (by omega)]] at this
        exact this
      · rw [c_ge hr (by decide), hk, key_self (by decide)]; decide
      · rw [c_le hr (by decide), hk, key_self (by decide)]; decide
      · rw [decide_eq_false (by unfold Mds; omega)]; rfl
    · refine ⟨rg b, decide (922 * 2 ^ 52 ≤ rg b), decide (rg b ≤ 1124 * 2 ^ 52), fun W => ?_, ?_, ?_, ?_⟩
      · have := specAbs_any b W hb hn
        rw [absW_rg hb hz] at this
        exact this
      · rw [c_ge (by rw [rg_self hl]; exact hr) (by decide), key_self hl, key_self (by decide), decide_eq_decide]; omega
      · rw [c_le (by rw [rg_self hl]; exact hr) (by decide), key_self hl, key_self (by decide), decide_eq_decide]; omega
      · by_cases p1 : 922 * 2 ^ 52 ≤ rg b
        · by_cases p2 : rg b ≤ 1124 * 2 ^ 52
          · rw [decide_eq_true (show Mds (rg b) from ⟨p1, p2⟩), decide_eq_true p1, decide_eq_true p2]; rfl
          · rw [decide_eq_false (fun h : Mds (rg b) => p2 h.2), decide_eq_true p1, decide_eq_false p2]; rfl
        · rw [decide_eq_false (fun h : Mds (rg b) => p1 h.1), decide_eq_false p1]; rfl
  · have hr := nan_true.1 hn
    have hI := INF_val
    refine ⟨b, false, false, fun W => specAbs_nan b W hn, ?_, ?_, ?_⟩
    · rw [c_nan (Or.inl hr)]; rfl
    · rw [c_nan (Or.inl hr)]; rfl
    · rw [decide_eq_false (by unfold Mds; omega)]; rfl

set_option maxHeartbeats 800000 in
theorem middles_cons (xs : List Nat) (A : Addr) (c n B : Nat) (w : World) (hx : xs.length = n) (hw : ∀ b ∈ xs, b < 2 ^ 64) (hn : n ≤ 9223372036854775807)
    (h1 : Rd w B (some A) (fl xs)) :
    Calls Try.prog 31 #[.slice (some A) n c] w fun e w' => (∃ p : Bool, e = .returned (.bool p) ∧ (p = true → ∀ b ∈ xs, Mds (rg b))) ∧ Qt w w' := by
  have hx' := Lib.hid hx
  clear hx
  go_enter Try.func31, Try.ntmps31
  go_wp2
  go_loopw [4, 8] (fun _ i wr => ∃ k : Nat, k ≤ n ∧ i = .int .i64 k ∧ Hid (∀ j, j < k → Mds (rg (xs.getD j 0))) ∧ Qt w wr) (fun _ i _ => n - (intOf i).toNat)
  case atStart => exact ⟨0, Nat.zero_le _, rfl, fun j hj => absurd hj (Nat.not_lt_zero _), Qt.refl _⟩
  case round =>
    obtain ⟨k, hk, rfl, hall, hq⟩ := hrel
    by_cases hlt : k < n
    · obtain ⟨ad, e1, _, c1⟩ := (h1.qt hq).fl (k := k) (by rw [hx'.out]; exact hlt)
      cases e1
      obtain ⟨a, p1, p2, HA', q1, q2, hdec⟩ := abs_mds (xs.getD k 0) (hw _ (getD_mem xs k 0 (by rw [hx'.out]; exact hlt)))
      have HA := Lib.hid HA'
      have hd := Lib.hid hdec
      clear HA' hdec
      have hnext : Hid ((p1 && p2) = true → ∀ j, j < k + 1 → Mds (rg (xs.getD j 0))) := fun h j hj => by
        rcases Nat.lt_or_ge j k with hj' | hj'
        · exact hall.out j hj'
        · obtain rfl : j = k := by omega
          rw [← hd.out] at h
          exact of_decide_eq_true h
      generalize xs.getD k 0 = x at *
      cases p1 <;> cases p2
      case true.true =>
        have hnext' := Lib.hid (hnext.out rfl)
        go_wp2_with (go_at_call 15; ((with_reducible refine (HA.out _).mono ?_)); rintro e w' ⟨rfl, rfl⟩)
        go_roundw
        case rel => exact ⟨k + 1, by omega, by go_num, hnext'.out, hq⟩
        case measure => simp [intOf]; omega
      all_goals
        clear hnext hall hd
        go_wp2_with (go_at_call 15; ((with_reducible refine (HA.out _).mono ?_)); rintro e w' ⟨rfl, rfl⟩)
        go_ret
        exact ⟨⟨false, rfl, fun h => by cases h⟩, hq⟩
    · have hfin : Hid (∀ b ∈ xs, Mds (rg b)) := fun b hb => by
        obtain ⟨j, hj, rfl⟩ := List.getElem_of_mem hb
        have := hall.out j (by rw [hx'.out] at hj; omega)
        rw [List.getD_eq_getElem?_getD, List.getElem?_eq_getElem hj] at this
        exact this
      clear hall
      go_wp2
      go_ret
      exact ⟨⟨true, rfl, fun _ => hfin.out⟩, hq⟩

set_option maxHeartbeats 400000 in
theorem middles_nil (A : Option Addr) (c : Nat) (w : World) :
    Calls Try.prog 31 #[.slice A 0 c] w fun e w' => (∃ p : Bool, e = .returned (.bool p) ∧ (p = true → ∀ b ∈ ([] : List Nat), Mds (rg b))) ∧ Qt w w' := by
  go_enter Try.func31, Try.ntmps31
  go_wp2
  refine wp_loop_rounds 1 ?_
  rw [rounds_succ]
  go_wp2
  go_ret
  exact ⟨⟨true, rfl, fun _ b hb => by cases hb⟩, Qt.refl _⟩

theorem middles_any (xs : List Nat) (A : Option Addr) (c n B : Nat) (w : World) (hx : xs.length = n) (hw : ∀ b ∈ xs, b < 2 ^ 64) (hn : n ≤ 9223372036854775807)
    (h1 : Rd w B A (fl xs)) :
    Calls Try.prog 31 #[.slice A n c] w fun e w' => (∃ p : Bool, e = .returned (.bool p) ∧ (p = true → ∀ b ∈ xs, Mds (rg b))) ∧ Qt w w' := by
  rcases Nat.eq_zero_or_pos n with h0 | h0
  · obtain rfl := h0
    obtain rfl : xs = [] := List.eq_nil_of_length_eq_zero hx
    exact middles_nil A c w
  · obtain ⟨ad, rfl, _, _⟩ := h1.fl (k := 0) (by omega)
    exact middles_cons xs ad c n B w hx hw hn h1
end Go.Proofs.Ytmhdjhfkndfhmaa
