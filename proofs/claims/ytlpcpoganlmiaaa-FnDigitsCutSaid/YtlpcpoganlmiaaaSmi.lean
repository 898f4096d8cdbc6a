/-
  Contract of laws.sameInts.
-/
import Derived.Test.YtlpcpoganlmiaaaMem
import Derived.Test.YtlpcpoganlmiaaaRows
namespace Go.Proofs.Ytlpcpoganlmiaaa
open Go.RowKit

set_option maxHeartbeats 800000 in
theorem sameInts_cons (xs : List Int) (A A' : Addr) (c c' n B : Nat) (w : World) (hx : xs.length = n) (hn : n ≤ 9223372036854775807)
    (h1 : Rd w B (some A) (il xs)) (h2 : Rd w B (some A') (il xs)) :
    Calls Try.prog 32 #[.slice (some A) n c, .slice (some A') n c'] w fun e w' => e = .returned (.bool true) ∧ Qt w w' := by
  have hx' := Lib.hid hx
  clear hx
  go_enter Try.func32, Try.ntmps32
  go_wp2
  go_loopw [5, 13] (fun _ i wr => ∃ k : Nat, k ≤ n ∧ i = .int .i64 k ∧ Qt w wr) (fun _ i _ => n - (intOf i).toNat)
  case atStart => exact ⟨0, Nat.zero_le _, rfl, Qt.refl _⟩
  case round =>
    obtain ⟨k, hk, rfl, hq⟩ := hrel
    by_cases hlt : k < n
    · obtain ⟨ad, e1, _, c1⟩ := (h1.qt hq).il (k := k) (by rw [hx'.out]; exact hlt)
      obtain ⟨ad', e2, _, c2⟩ := (h2.qt hq).il (k := k) (by rw [hx'.out]; exact hlt)
      cases e1; cases e2
      generalize xs.getD k 0 = x at *
      go_wp2
      go_quiet (fail)
      go_wp2
      go_roundw
      case rel => exact ⟨k + 1, by omega, by go_num, hq.drewN _⟩
      case measure => simp [intOf]; omega
    · go_wp2
      go_ret
      exact ⟨rfl, hq⟩

set_option maxHeartbeats 400000 in
theorem sameInts_nil (A A' : Option Addr) (c c' : Nat) (w : World) :
    Calls Try.prog 32 #[.slice A 0 c, .slice A' 0 c'] w fun e w' => e = .returned (.bool true) ∧ Qt w w' := by
  go_enter Try.func32, Try.ntmps32
  go_wp2
  refine wp_loop_rounds 1 ?_
  rw [rounds_succ]
  go_wp2
  go_ret
  exact ⟨rfl, Qt.refl _⟩

theorem sameInts_any (xs : List Int) (A A' : Option Addr) (c c' n n' B : Nat) (w : World) (hx : xs.length = n) (hy : xs.length = n') (hn : n ≤ 9223372036854775807)
    (h1 : Rd w B A (il xs)) (h2 : Rd w B A' (il xs)) :
    Calls Try.prog 32 #[.slice A n c, .slice A' n' c'] w fun e w' => e = .returned (.bool true) ∧ Qt w w' := by
  obtain rfl : n' = n := by rw [← hx, ← hy]
  rcases Nat.eq_zero_or_pos n' with h0 | h0
  · rw [h0]; exact sameInts_nil A A' c c' w
  · obtain ⟨ad, rfl, _, _⟩ := h1.il (k := 0) (by omega)
    obtain ⟨ad', rfl, _, _⟩ := h2.il (k := 0) (by omega)
    exact sameInts_cons xs _ _ c c' n' B w hx hn h1 h2
end Go.Proofs.Ytlpcpoganlmiaaa
