/-
  Contracts of the reference: divides, divided.
-/
import Derived.Test.YtmhdjhfkndfhmaaSpcB
import Derived.Test.YtmhdjhfkndfhmaaSpcC
import Derived.Test.YtmhdjhfkndfhmaaSpcD
import Derived.Test.YtmhdjhfkndfhmaaNwk
import Derived.Test.YtmhdjhfkndfhmaaFvm
namespace Go.Proofs.Ytmhdjhfkndfhmaa
open Go.RowKit Flt

/-- what divided tells of X = ma 2^Ea and Y = mb 2^Eb -/
structure Dvd (ma mb Ea Eb r d E : Nat) (odd : Bool) : Prop where
  E_le : E ≤ 3172
  r_eq : r * 2 ^ E = (ma * 2 ^ Ea) % (mb * 2 ^ Eb)
  r_lt : r < 2 ^ 53
  d_lt : d < 2 ^ 62
  or : (0 < d ∧ d * 2 ^ E = mb * 2 ^ Eb ∧ r < d ∧ odd = decide ((ma * 2 ^ Ea) / (mb * 2 ^ Eb) % 2 = 1)) ∨ (d = 0 ∧ 2 * (ma * 2 ^ Ea) < mb * 2 ^ Eb)

/-- the first number has the greater unit -/
theorem dvd_up {ma mb Ea Eb : Nat} (hmb : mb < 2 ^ 53) (h0 : 0 < mb) (hE : Eb ≤ Ea) (hEb : Eb ≤ 3172) : Dvd ma mb Ea Eb (ma * 2 ^ (Ea - Eb) % (2 * mb) % mb) mb Eb (decide (mb ≤ ma * 2 ^ (Ea - Eb) % (2 * mb))) := by
  have hX : ma * 2 ^ Ea = ma * 2 ^ (Ea - Eb) * 2 ^ Eb := by rw [Nat.mul_assoc, ← Nat.pow_add]; congr 2; omega
  have hp := pow_pos Eb
  rw [show ma * 2 ^ (Ea - Eb) % (2 * mb) % mb = ma * 2 ^ (Ea - Eb) % mb from Nat.mod_mod_of_dvd _ (Nat.dvd_mul_left mb 2)]
  generalize ma * 2 ^ (Ea - Eb) = M at *
  have hm := Nat.mod_lt M h0
  refine ⟨hEb, ?_, by omega, by omega, Or.inl ⟨h0, rfl, hm, ?_⟩⟩
  · rw [hX, Nat.mul_mod_mul_right]
  · rw [hX, Nat.mul_div_mul_right _ _ hp, decide_eq_decide]
    have h1 := Nat.mod_lt M (show 0 < 2 * mb by omega)
    have h2 := Nat.mod_add_div M (2 * mb)
    have h3 : M / mb = M % (2 * mb) / mb + 2 * (M / (2 * mb)) := by
      conv => lhs; rw [← h2]
      rw [show 2 * mb * (M / (2 * mb)) = mb * (2 * (M / (2 * mb))) by rw [Nat.mul_comm 2 mb, Nat.mul_assoc], Nat.add_mul_div_left _ _ h0]
    constructor
    · intro h
      have : M % (2 * mb) / mb = 1 := Nat.div_eq_of_lt_le (by omega) (by omega)
      omega
    · intro h
      rcases Nat.lt_or_ge (M % (2 * mb)) mb with hl | hl
      · rw [Nat.div_eq_of_lt hl] at h3; omega
      · exact hl

/-- the second number is too great -/
theorem dvd_great {ma mb Ea Eb : Nat} (hma : ma < 2 ^ 53) (h0 : 0 < mb) (hE : Ea ≤ Eb) (hEa : Ea ≤ 3172) (hl : 62 < bl mb + (Eb - Ea)) : Dvd ma mb Ea Eb ma 0 Ea false := by
  have h1 := le_bl h0
  have hY : mb * 2 ^ Eb = mb * 2 ^ (Eb - Ea) * 2 ^ Ea := by rw [Nat.mul_assoc, ← Nat.pow_add]; congr 2; omega
  have hp := pow_pos Ea
  have h2 : 2 ^ 62 ≤ mb * 2 ^ (Eb - Ea) := by
    have h3 := Nat.mul_le_mul_right (2 ^ (Eb - Ea)) h1
    rw [← Nat.pow_add] at h3
    exact Nat.le_trans (pow_le (by have : 0 < bl mb := by rw [bl_pos h0]; omega
                                   omega)) h3
  have h4 : 2 * (ma * 2 ^ Ea) < mb * 2 ^ Eb := by
    rw [hY, ← Nat.mul_assoc]
    exact Nat.mul_lt_mul_of_pos_right (by omega) hp
  refine ⟨hEa, ?_, hma, by decide, Or.inr ⟨rfl, h4⟩⟩
  rw [Nat.mod_eq_of_lt (by omega)]

/-- the second number has the greater unit -/
theorem dvd_down {ma mb Ea Eb : Nat} (hma : ma < 2 ^ 53) (h0 : 0 < mb) (hE : Ea ≤ Eb) (hEa : Ea ≤ 3172) (hl : bl mb + (Eb - Ea) ≤ 62) : Dvd ma mb Ea Eb (ma % (mb * 2 ^ (Eb - Ea))) (mb * 2 ^ (Eb - Ea)) Ea (decide (ma / (mb * 2 ^ (Eb - Ea)) % 2 = 1)) := by
  have hY : mb * 2 ^ Eb = mb * 2 ^ (Eb - Ea) * 2 ^ Ea := by rw [Nat.mul_assoc, ← Nat.pow_add]; congr 2; omega
  have hp := pow_pos Ea
  have hd0 : 0 < mb * 2 ^ (Eb - Ea) := Nat.mul_pos h0 (pow_pos _)
  have hd : mb * 2 ^ (Eb - Ea) < 2 ^ 62 := by
    have h3 := Nat.mul_lt_mul_of_pos_right (lt_bl mb) (pow_pos (Eb - Ea))
    rw [← Nat.pow_add] at h3
    exact Nat.lt_of_lt_of_le h3 (pow_le hl)
  generalize mb * 2 ^ (Eb - Ea) = d at *
  have hm := Nat.mod_lt ma hd0
  have hle := Nat.mod_le ma d
  refine ⟨hEa, ?_, by omega, hd, Or.inl ⟨hd0, hY.symm, hm, ?_⟩⟩
  · rw [hY, Nat.mul_mod_mul_right]
  · rw [hY, Nat.mul_div_mul_right _ _ hp]

/-- what divided gives -/
def Divides (ma mb Ea Eb : Nat) (w : World) (e : Ending) (w' : World) : Prop :=
  ∃ (r d E : Nat) (odd : Bool), e = .returned (.tuple #[.int .u64 (r : Int), .bool odd, .int .u64 (d : Int), .int .i64 ((E : Int) - 1074)]) ∧ Dvd ma mb Ea Eb r d E odd ∧ Below w.heap.size w w'

theorem mod_double (ma mb k : Nat) : 2 * (ma * 2 ^ k % (2 * mb)) % (2 * mb) = ma * 2 ^ (k + 1) % (2 * mb) := by
  rw [Nat.mul_mod, Nat.mod_mod, ← Nat.mul_mod, Nat.pow_succ]
  congr 1
  rw [Nat.mul_left_comm, Nat.mul_comm 2]

set_option maxRecDepth 100000 in
set_option maxHeartbeats 1600000 in
theorem divided_up (na nb : Bool) (ma mb Ea Eb : Nat) (w : World) (hma : ma < 2 ^ 53) (hmb : mb < 2 ^ 53) (h0 : 0 < mb) (hEa : Ea ≤ 3172) (hE : Eb ≤ Ea) :
    Calls Try.prog 57 #[.agg #[.bool na, .int .u64 (ma : Int), .int .i64 ((Ea : Int) - 1074)], .agg #[.bool nb, .int .u64 (mb : Int), .int .i64 ((Eb : Int) - 1074)]] w (Divides ma mb Ea Eb w) := by
  have hD := Lib.hid (dvd_up (ma := ma) hmb h0 hE (by omega))
  have hbel : Hid (Below w.heap.size w ((w.alloc (.cells #[.bool na, .int .u64 (ma : Int), .int .i64 ((Ea : Int) - 1074)] 57)).alloc (.cells #[.bool nb, .int .u64 (mb : Int), .int .i64 ((Eb : Int) - 1074)] 57))) := ((Below.refl _ _).alloc (Nat.le_refl _) _).alloc (by simp) _
  have hge : decide ((Eb : Int) - 1074 ≤ (Ea : Int) - 1074) = true := decide_eq_true (by omega)
  go_enter Try.func57, Try.ntmps57
  go_wp2
  go_loopw [8, 9] (fun r i wr => ∃ k R : Nat, k ≤ Ea - Eb ∧ i = .int .i64 ((Eb : Int) + k - 1074) ∧ r = .int .u64 (R : Int) ∧ Hid (R = ma * 2 ^ k % (2 * mb)) ∧ R < 2 * mb ∧ wr = (w.alloc (.cells #[.bool na, .int .u64 (ma : Int), .int .i64 ((Ea : Int) - 1074)] 57)).alloc (.cells #[.bool nb, .int .u64 (mb : Int), .int .i64 ((Eb : Int) - 1074)] 57)) (fun _ i _ => ((Ea : Int) - 1074 - intOf i).toNat)
  case atStart => exact ⟨0, ma % (2 * mb), Nat.zero_le _, by simp, by simp, (by show _ = _; rw [Nat.pow_zero, Nat.mul_one]), Nat.mod_lt _ (by omega), rfl⟩
  case round =>
    obtain ⟨k, R, hk, rfl, rfl, hR, hRl, rfl⟩ := hrel
    by_cases hlt : k < Ea - Eb
    · have hst : Hid (2 * R % (2 * mb) = ma * 2 ^ (k + 1) % (2 * mb)) := by
        show _ = _
        rw [hR.out]; exact mod_double ma mb k
      have hl : decide ((Eb : Int) + k - 1074 < (Ea : Int) - 1074) = true := decide_eq_true (by omega)
      clear hR
      go_wp2
      go_roundw
      case rel => exact ⟨k + 1, 2 * R % (2 * mb), by omega, by go_num, by simp, hst.out, Nat.mod_lt _ (by omega), (by first | rfl | trivial)⟩
      case measure => simp [intOf]; omega
    · have hkE : k = Ea - Eb := by omega
      have hRR : Hid (R = ma * 2 ^ (Ea - Eb) % (2 * mb)) := by have := hR.out; rw [hkE] at this; exact this
      have hl : decide ((Eb : Int) + k - 1074 < (Ea : Int) - 1074) = false := decide_eq_false (by omega)
      have hD' := hD.out
      rw [← hRR.out] at hD'
      have HD := Lib.hid hD'
      have hmo : (R : Int).tmod (mb : Int) = ((R % mb : Nat) : Int) := rfl
      clear hR hkE hD' hRR hD
      go_wp2
      go_quiet (fail)
      go_wp2
      refine bodyPost_ret (v := .tuple #[.int .u64 ((R % mb : Nat) : Int), .bool (decide (mb ≤ R)), .int .u64 (mb : Int), .int .i64 ((Eb : Int) - 1074)]) (by simp [results, Try.results57, go_sem]) rfl ⟨_, _, _, _, rfl, HD.out, ?_⟩
      exact hbel.out.trans ((Qt.drewN (Qt.refl _) _).below _)

theorem shl_nat {mb k : Nat} (h : mb * 2 ^ k < 2 ^ 62) : IntKind.u64.wrap ((mb : Int) * 2 ^ k) = ((mb * 2 ^ k : Nat) : Int) := by
  have e : (mb : Int) * 2 ^ k = ((mb * 2 ^ k : Nat) : Int) := by simp
  rw [e, IntKind.wrap_u64]
  omega

theorem odd_eq (ma d : Nat) (h : ma < 2 ^ 53) : ((IntKind.u64.wrap ((ma : Int) / (d : Int))).tmod 2 == 1) = decide (ma / d % 2 = 1) := by
  have e : (ma : Int) / (d : Int) = ((ma / d : Nat) : Int) := by simp
  have hle := Nat.div_le_self ma d
  rw [e]
  generalize ma / d = q at *
  have hw : IntKind.u64.wrap (q : Int) = (q : Int) := by rw [IntKind.wrap_u64]; omega
  have ht : (q : Int).tmod 2 = ((q % 2 : Nat) : Int) := rfl
  rw [hw, ht]
  by_cases hq : q % 2 = 1
  · rw [hq]; rfl
  · rw [show q % 2 = 0 by omega]; rfl

set_option maxRecDepth 100000 in
set_option maxHeartbeats 1600000 in
theorem divided_down (na nb : Bool) (ma mb Ea Eb : Nat) (w : World) (hma : ma < 2 ^ 53) (hmb : mb < 2 ^ 53) (h0 : 0 < mb) (hEb : Eb ≤ 3172) (hE : Ea < Eb) :
    Calls Try.prog 57 #[.agg #[.bool na, .int .u64 (ma : Int), .int .i64 ((Ea : Int) - 1074)], .agg #[.bool nb, .int .u64 (mb : Int), .int .i64 ((Eb : Int) - 1074)]] w (Divides ma mb Ea Eb w) := by
  have hbel : Hid (Below w.heap.size w ((w.alloc (.cells #[.bool na, .int .u64 (ma : Int), .int .i64 ((Ea : Int) - 1074)] 57)).alloc (.cells #[.bool nb, .int .u64 (mb : Int), .int .i64 ((Eb : Int) - 1074)] 57))) := ((Below.refl _ _).alloc (Nat.le_refl _) _).alloc (by simp) _
  have hge : decide ((Eb : Int) - 1074 ≤ (Ea : Int) - 1074) = false := decide_eq_false (by omega)
  have HL := Lib.hid (fun W : World => specLength_any mb W (by omega))
  have hb1 : bl mb ≤ 53 := bl_le hmb
  have hw1 : IntKind.i64.wrap ((bl mb : Int) + ((Eb : Int) - 1074)) = (bl mb : Int) + ((Eb : Int) - 1074) := IntWalk.i64_in _ (by omega)
  have hw2 : IntKind.i64.wrap ((bl mb : Int) + ((Eb : Int) - 1074) - ((Ea : Int) - 1074)) = (bl mb : Int) + ((Eb : Int) - 1074) - ((Ea : Int) - 1074) := IntWalk.i64_in _ (by omega)
  by_cases hl : 62 < bl mb + (Eb - Ea)
  · have HD := Lib.hid (dvd_great (ma := ma) hma h0 (Nat.le_of_lt hE) (by omega) hl)
    have hgt : decide (62 < (bl mb : Int) + ((Eb : Int) - 1074) - ((Ea : Int) - 1074)) = true := decide_eq_true (by omega)
    generalize bl mb = y at *
    clear hl
    go_enter Try.func57, Try.ntmps57
    go_wp2
    go_quiet ((go_at_call 65; exact quiet_w (HL.out _)))
    go_wp2
    clear hw1 hw2
    go_quiet (fail)
    go_wp2
    refine bodyPost_ret (v := .tuple #[.int .u64 (ma : Int), .bool false, .int .u64 ((0 : Nat) : Int), .int .i64 ((Ea : Int) - 1074)]) (by simp [results, Try.results57, go_sem]) rfl ⟨_, _, _, _, rfl, HD.out, ?_⟩
    exact hbel.out.trans (((Qt.drewN (Qt.refl _) _).drewN _).below _)
  · have HD := Lib.hid (dvd_down (ma := ma) hma h0 (Nat.le_of_lt hE) (by omega) (show bl mb + (Eb - Ea) ≤ 62 by omega))
    have hgt : decide (62 < (bl mb : Int) + ((Eb : Int) - 1074) - ((Ea : Int) - 1074)) = false := decide_eq_false (by omega)
    have hdl := HD.out.d_lt
    have hd0 : 0 < mb * 2 ^ (Eb - Ea) := Nat.mul_pos h0 (pow_pos _)
    have hsh := shl_nat hdl
    generalize bl mb = y at *
    obtain ⟨k, hk⟩ : ∃ k : Nat, Eb - Ea = k := ⟨_, rfl⟩
    have hkI : (Eb : Int) - 1074 - ((Ea : Int) - 1074) = (k : Int) := by omega
    rw [hk] at HD hdl hd0 hsh
    rw [show k = min k 64 by omega] at hsh
    have hk64 : Hid (min k 64 = k) := Nat.min_eq_left (by omega)
    rw [show ((mb * 2 ^ min k 64 : Nat) : Int) = ((mb * 2 ^ k : Nat) : Int) by rw [hk64.out]] at hsh
    generalize mb * 2 ^ k = d at *
    have hodd := Lib.hid (odd_eq ma d hma)
    have hq1 : (ma : Int).tmod (d : Int) = ((ma % d : Nat) : Int) := rfl
    have hq2 : (ma : Int).tdiv (d : Int) = ((ma / d : Nat) : Int) := rfl
    clear hl
    go_enter Try.func57, Try.ntmps57
    go_wp2
    go_quiet ((go_at_call 65; exact quiet_w (HL.out _)))
    go_wp2
    clear hw1 hw2
    go_quiet (fail)
    go_wp2
    refine bodyPost_ret (v := .tuple #[.int .u64 ((ma % d : Nat) : Int), .bool (decide (ma / d % 2 = 1)), .int .u64 (d : Int), .int .i64 ((Ea : Int) - 1074)]) (by simp [results, Try.results57, go_sem]; exact hodd.out) rfl ⟨_, _, _, _, rfl, HD.out, ?_⟩
    exact hbel.out.trans (((Qt.drewN (Qt.refl _) _).drewN _).below _)

theorem divided_any (na nb : Bool) (ma mb Ea Eb : Nat) (w : World) (hma : ma < 2 ^ 53) (hmb : mb < 2 ^ 53) (h0 : 0 < mb) (hEa : Ea ≤ 3172) (hEb : Eb ≤ 3172) :
    Calls Try.prog 57 #[.agg #[.bool na, .int .u64 (ma : Int), .int .i64 ((Ea : Int) - 1074)], .agg #[.bool nb, .int .u64 (mb : Int), .int .i64 ((Eb : Int) - 1074)]] w (Divides ma mb Ea Eb w) := by
  rcases Nat.lt_or_ge Ea Eb with h | h
  · exact divided_down na nb ma mb Ea Eb w hma hmb h0 hEb h
  · exact divided_up na nb ma mb Ea Eb w hma hmb h0 hEa h
end Go.Proofs.Ytmhdjhfkndfhmaa
