/-
  Contracts of the reference: Abs, partsOf, value.
-/
import Derived.Test.YtmhdjhfkndfhmaaLibA
import Derived.Test.YtmhdjhfkndfhmaaMem
import Derived.Test.YtmhdjhfkndfhmaaFlp
import Derived.Deep.LoopGhost
namespace Go.Proofs.Ytmhdjhfkndfhmaa
open Go.RowKit Flt

theorem run_f {op : BinOp} {x y r : Nat} (h : floatBits op .f64 x y = some r) (w : World) : (binOp op 22 (.float .f64 x) (.float .f64 y)).run Try.prog w = .ok (.float .f64 r) w := run_float_arith w op _ .f64 x y r h

theorem neg_run (b : Nat) (w : World) : (Op.unary .neg (.float .f64 b)).run Try.prog w = .ok (.float .f64 (Op.negFloat .f64 b)) w := rfl

/-- the absolute value of a word that is no NaN, a nought's sign kept -/
def absW (b : Nat) : Nat := if key b < 0 then mk false (rg b) else b

set_option maxHeartbeats 400000 in
theorem specAbs_any (b : Nat) (w : World) (hb : b < 2 ^ 64) (hn : nan b = false) :
    Calls Try.prog 15 #[.float .f64 b] w fun e w' => e = .returned (.float .f64 (absW b)) ∧ w = w' := by
  have h1 := c_lt (nan_false.1 hn) rg_zero_le
  rw [key_zero] at h1
  have hng := neg_run
  by_cases hk : key b < 0
  · rw [decide_eq_true hk] at h1
    have hsg : sg b = true := by unfold key at hk; cases h : sg b; rw [h] at hk; simp at hk; omega; rfl
    have hfin : Hid (Op.negFloat .f64 b = absW b) := by
      show _ = _
      unfold absW; rw [if_pos hk, neg_bits b hb, hsg]; rfl
    clear hk hsg hb hn
    go_enter Try.func15, Try.ntmps15
    go_wp2
    go_ret
    exact ⟨ret_float hfin.out, rfl⟩
  · rw [decide_eq_false hk] at h1
    have hfin : Hid (b = absW b) := by show _ = _; unfold absW; rw [if_neg hk]
    clear hk hb hn
    go_enter Try.func15, Try.ntmps15
    go_wp2
    go_ret
    exact ⟨ret_float hfin.out, rfl⟩

theorem ofU64_run (n : Int) (w : World) : (convert 49 22 (.int .u64 n)).run Try.prog w = .ok (.float .f64 (floatOfInt .f64 n)) w :=
  run_convert_int_float w _ _ .u64 .f64 n (by rw [Try.underlying49]; rfl) Try.underlying22

set_option maxHeartbeats 400000 in
theorem value_up (neg : Bool) (m k0 N : Nat) (w : World) (hF : Fits N) (hN : Sc (m * U) k0 N) (hk0 : k0 ≤ 4000) :
    Calls Try.prog 59 #[.agg #[.bool neg, .int .u64 (m : Int), .int .i64 (k0 : Int)]] w fun e w' => e = .returned (.float .f64 (mk neg (wd N))) ∧ Below w.heap.size w w' := by
  have hFU : Fits (m * U) := hN.fits hF
  have hFU' : Fits (m * 2 ^ e0) := by rw [← U_eq]; exact hFU
  have h0' := Lib.hid (ofNat_wd hFU'.rep.of_mul_pow hFU.lt)
  have hng := neg_run
  clear hFU' hFU
  generalize m * U = mU at *
  go_enter Try.func59, Try.ntmps59
  go_wp2
  rw [h0'.out]
  go_loopg [3] k0 (fun k x wr => ∃ n, x = .float .f64 (wd n) ∧ Sc n k N ∧ k ≤ 4000 ∧ wr = w.alloc (.cells #[.bool neg, .int .u64 (m : Int), .int .i64 (k : Int)] 57))
  case atStart => exact ⟨mU, rfl, hN, hk0, rfl⟩
  case round =>
    obtain ⟨n, rfl, hnk, hkb, rfl⟩ := hrel
    by_cases hk : 64 ≤ gk
    · obtain ⟨j, rfl⟩ : ∃ j, gk = j + 64 := ⟨gk - 64, by omega⟩
      obtain ⟨n', hS', hq0⟩ := hnk.up64 hF
      have hq := run_f hq0
      clear hq0 hnk
      generalize wd n = b at *
      rw [show (((j + 64 : Nat) : Int)) = (j : Int) + 64 by omega]
      go_wp2
      go_roundg j
      case measure => omega
      case rel => exact ⟨n', rfl, hS', by omega, by simp⟩
    · go_wp2
      go_loopg [3] gk (fun k x wr => ∃ n, x = .float .f64 (wd n) ∧ Sc n k N ∧ k ≤ 4000 ∧ wr = w.alloc (.cells #[.bool neg, .int .u64 (m : Int), .int .i64 (k : Int)] 57))
      case atStart => exact ⟨n, rfl, hnk, hkb, rfl⟩
      case round =>
        clear hnk hkb hk
        obtain ⟨n, rfl, hnk, hkb, rfl⟩ := hrel
        rcases gk with _ | j
        · obtain rfl := hnk.zero
          have hneg := Lib.hid (neg_wd hF)
          have hb2 : Below w.heap.size w (w.alloc (.cells #[.bool neg, .int .u64 (m : Int), .int .i64 (0 : Int)] 57)) := (Below.refl _ _).alloc (Nat.le_refl _) _
          clear hnk hF
          rw [show ((0 : Nat) : Int) = 0 from rfl]
          go_wp2
          refine wp_loop_rounds 1 ?_
          rw [rounds_succ]
          go_wp2
          refine wp_loop_rounds 1 ?_
          rw [rounds_succ]
          cases neg
          · go_wp2
            go_ret
            exact ⟨rfl, hb2⟩
          · go_wp2
            go_ret
            exact ⟨ret_float hneg.out, hb2⟩
        · obtain ⟨n', hS', hq0⟩ := hnk.up1 hF
          have hq := run_f hq0
          clear hq0 hnk
          generalize wd n = b at *
          rw [show (((j + 1 : Nat) : Int)) = (j : Int) + 1 by omega]
          go_wp2
          go_roundg j
          case measure => omega
          case rel => exact ⟨n', rfl, hS', by omega, by simp⟩

set_option maxHeartbeats 400000 in
theorem value_down (neg : Bool) (m k0 N : Nat) (w : World) (hF : Fits (m * U)) (hN : Sc N k0 (m * U)) (hk0 : k0 ≤ 4000) :
    Calls Try.prog 59 #[.agg #[.bool neg, .int .u64 (m : Int), .int .i64 (-(k0 : Int))]] w fun e w' => e = .returned (.float .f64 (mk neg (wd N))) ∧ Below w.heap.size w w' := by
  have hFU' : Fits (m * 2 ^ e0) := by rw [← U_eq]; exact hF
  have h0' := Lib.hid (ofNat_wd hFU'.rep.of_mul_pow hF.lt)
  have hng := neg_run
  clear hFU'
  generalize m * U = mU at *
  go_enter Try.func59, Try.ntmps59
  go_wp2
  rw [h0'.out]
  refine wp_loop_rounds 1 ?_
  rw [rounds_succ]
  go_wp2
  refine wp_loop_rounds 1 ?_
  rw [rounds_succ]
  go_wp2
  go_loopg [3] k0 (fun k x wr => ∃ n, x = .float .f64 (wd n) ∧ Sc N k n ∧ Fits n ∧ k ≤ 4000 ∧ wr = w.alloc (.cells #[.bool neg, .int .u64 (m : Int), .int .i64 (-(k : Int))] 57))
  case atStart => exact ⟨mU, rfl, hN, hF, hk0, rfl⟩
  case round =>
    clear hN hF
    obtain ⟨n, rfl, hnk, hF, hkb, rfl⟩ := hrel
    by_cases hk : 64 ≤ gk
    · obtain ⟨j, rfl⟩ : ∃ j, gk = j + 64 := ⟨gk - 64, by omega⟩
      obtain ⟨n', hS', hF', hq0⟩ := hnk.down64 hF
      have hq := run_f hq0
      clear hq0 hnk
      generalize wd n = b at *
      rw [show (-((j + 64 : Nat) : Int)) = -(j : Int) - 64 by omega]
      go_wp2
      go_roundg j
      case measure => omega
      case rel => exact ⟨n', rfl, hS', hF', by omega, by simp⟩
    · go_wp2
      go_loopg [3] gk (fun k x wr => ∃ n, x = .float .f64 (wd n) ∧ Sc N k n ∧ Fits n ∧ k ≤ 4000 ∧ wr = w.alloc (.cells #[.bool neg, .int .u64 (m : Int), .int .i64 (-(k : Int))] 57))
      case atStart => exact ⟨n, rfl, hnk, hF, hkb, rfl⟩
      case round =>
        clear hnk hkb hk hF
        obtain ⟨n, rfl, hnk, hF, hkb, rfl⟩ := hrel
        rcases gk with _ | j
        · obtain rfl := hnk.zero
          have hneg := Lib.hid (neg_wd hF)
          have hb2 : Below w.heap.size w (w.alloc (.cells #[.bool neg, .int .u64 (m : Int), .int .i64 (0 : Int)] 57)) := (Below.refl _ _).alloc (Nat.le_refl _) _
          clear hnk hF
          rw [show (-((0 : Nat) : Int)) = 0 from rfl]
          cases neg
          · go_wp2
            go_ret
            exact ⟨rfl, hb2⟩
          · go_wp2
            go_ret
            exact ⟨ret_float hneg.out, hb2⟩
        · obtain ⟨n', hS', hF', hq0⟩ := hnk.down1 hF
          have hq := run_f hq0
          clear hq0 hnk
          generalize wd n = b at *
          rw [show (-((j + 1 : Nat) : Int)) = -(j : Int) - 1 by omega]
          go_wp2
          go_roundg j
          case measure => omega
          case rel => exact ⟨n', rfl, hS', hF', by omega, by simp⟩

/-- value, at an exponent E - 1074 -/
theorem value_any (neg : Bool) (m E : Nat) (w : World) (hU : Fits (m * U)) (hF : Fits (m * 2 ^ E)) (hE : E ≤ 4000) :
    Calls Try.prog 59 #[.agg #[.bool neg, .int .u64 (m : Int), .int .i64 ((E : Int) - 1074)]] w fun e w' => e = .returned (.float .f64 (mk neg (wd (m * 2 ^ E)))) ∧ Below w.heap.size w w' := by
  have he := e0_eq
  rcases Nat.lt_or_ge E e0 with h | h
  · have := value_down neg m (e0 - E) (m * 2 ^ E) w hU ⟨by rw [U_eq, Nat.mul_assoc, ← Nat.pow_add, show E + (e0 - E) = e0 by omega]⟩ (by omega)
    rw [show (-((e0 - E : Nat) : Int)) = (E : Int) - 1074 by omega] at this
    exact this
  · have := value_up neg m (E - e0) (m * 2 ^ E) w hF ⟨by rw [U_eq, Nat.mul_assoc, ← Nat.pow_add, show e0 + (E - e0) = E by omega]⟩ (by omega)
    rw [show (((E - e0 : Nat) : Int)) = (E : Int) - 1074 by omega] at this
    exact this
end Go.Proofs.Ytmhdjhfkndfhmaa
