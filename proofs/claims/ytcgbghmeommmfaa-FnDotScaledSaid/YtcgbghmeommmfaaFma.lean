/-
  Calls of math.FMA, and impl.Dot where all sums are numbers.
-/
import Derived.Test.YtcgbghmeommmfaaMem
import Derived.Test.YtcgbghmeommmfaaFlw
import Derived.Test.YtcgbghmeommmfaaRows
namespace Go.Proofs.Ytcgbghmeommmfaa
open Go.RowKit Flt Ieee

theorem ext_fma : Extern.find Try.f41 = some Extern.MathFMA.fma := by kernel_rfl
theorem fma_form (x y z : Nat) : ∃ F : Sem Value, Extern.MathFMA.fma #[.float .f64 x, .float .f64 y, .float .f64 z] = (match double.fma x y z with | some r => pure (.float .f64 r) | none => F) := ⟨_, rfl⟩
theorem call_fma {x y z r : Nat} (h : double.fma x y z = some r) (w : World) : (callFunc 41 #[.float .f64 x, .float .f64 y, .float .f64 z]).run Try.prog w = .ok (.value (.float .f64 r)) w := by
  rw [run_callFunc_extern Try.func41 (by kernel_rfl) (by kernel_rfl) (by kernel_rfl) ext_fma]
  obtain ⟨F, hF⟩ := fma_form x y z
  rw [hF, h]
  rfl

/-- the sums on the way are numbers: Z tells them -/
structure DotTo (xs ys : List Nat) (Z : Nat → Nat) (n : Nat) : Prop where
  step : ∀ i, i < n → double.fma (xs.getD i 0) (ys.getD i 0) (Z i) = some (Z (i + 1))

set_option maxHeartbeats 800000 in
theorem dot_cons (xs ys : List Nat) (Z : Nat → Nat) (A A' : Addr) (c c' n m B : Nat) (w : World) (hx : xs.length = n) (hy : ys.length = m) (hn : n ≤ 9223372036854775807) (_hm : m ≤ 9223372036854775807)
    (h1 : Rd w B (some A) (fl xs)) (h2 : Rd w B (some A') (fl ys)) (hZ : DotTo xs ys Z (min n m)) :
    Calls Try.prog 24 #[.float .f64 (Z 0), .slice (some A) n c, .slice (some A') m c'] w fun e w' => e = .returned (.float .f64 (Z (min n m))) ∧ Qt w w' := by
  have hx' := Lib.hid hx
  have hy' := Lib.hid hy
  clear hx hy
  go_enter Try.func24, Try.ntmps24
  go_wp2
  go_loopw [0, 7, 8, 11] (fun z _ _ i wr => ∃ k : Nat, k ≤ n ∧ i = .int .i64 k ∧ z = .float .f64 (Z (min k m)) ∧ Qt w wr) (fun _ _ _ i _ => n - (intOf i).toNat)
  case atStart => exact ⟨0, Nat.zero_le _, rfl, by rw [Nat.zero_min], Qt.refl _⟩
  case round =>
    obtain ⟨k, hk, rfl, rfl, hq⟩ := hrel
    by_cases hlt : k < n
    · obtain ⟨ad, e1, _, c1⟩ := (h1.qt hq).fl (k := k) (by rw [hx'.out]; exact hlt)
      cases e1
      by_cases hlm : k < m
      · obtain ⟨ad', e2, _, c2⟩ := (h2.qt hq).fl (k := k) (by rw [hy'.out]; exact hlm)
        cases e2
        have hf := call_fma (hZ.step k (by omega))
        rw [Nat.min_eq_left (Nat.le_of_lt hlm)]
        have hnx : Hid (min (k + 1) m = k + 1) := Nat.min_eq_left hlm
        generalize xs.getD k 0 = x at *
        generalize ys.getD k 0 = y at *
        go_wp2
        go_roundw
        case rel => exact ⟨k + 1, by omega, by go_num, by rw [hnx.out], hq⟩
        case measure => simp [intOf]; omega
      · rw [Nat.min_eq_right (show m ≤ k by omega)]
        have hnx : Hid (min (k + 1) m = m) := Nat.min_eq_right (by omega)
        generalize xs.getD k 0 = x at *
        go_wp2
        go_roundw
        case rel => exact ⟨k + 1, by omega, by go_num, by rw [hnx.out], hq⟩
        case measure => simp [intOf]; omega
    · have hkn : k = n := by omega
      rw [hkn]
      go_wp2
      go_ret
      exact ⟨rfl, hq⟩

set_option maxHeartbeats 400000 in
theorem dot_nil (z : Nat) (A A' : Option Addr) (c c' m : Nat) (w : World) :
    Calls Try.prog 24 #[.float .f64 z, .slice A 0 c, .slice A' m c'] w fun e w' => e = .returned (.float .f64 z) ∧ Qt w w' := by
  go_enter Try.func24, Try.ntmps24
  go_wp2
  refine wp_loop_rounds 1 ?_
  rw [rounds_succ]
  go_wp2
  go_ret
  exact ⟨rfl, Qt.refl _⟩

set_option maxHeartbeats 800000 in
theorem dot_none (xs : List Nat) (z : Nat) (A : Addr) (A' : Option Addr) (c c' n B : Nat) (w : World) (hx : xs.length = n) (hn : n ≤ 9223372036854775807)
    (h1 : Rd w B (some A) (fl xs)) :
    Calls Try.prog 24 #[.float .f64 z, .slice (some A) n c, .slice A' 0 c'] w fun e w' => e = .returned (.float .f64 z) ∧ Qt w w' := by
  have hx' := Lib.hid hx
  clear hx
  go_enter Try.func24, Try.ntmps24
  go_wp2
  go_loopw [0, 7, 8, 11] (fun z' _ _ i wr => ∃ k : Nat, k ≤ n ∧ i = .int .i64 k ∧ z' = .float .f64 z ∧ Qt w wr) (fun _ _ _ i _ => n - (intOf i).toNat)
  case atStart => exact ⟨0, Nat.zero_le _, rfl, rfl, Qt.refl _⟩
  case round =>
    obtain ⟨k, hk, rfl, rfl, hq⟩ := hrel
    by_cases hlt : k < n
    · obtain ⟨ad, e1, _, c1⟩ := (h1.qt hq).fl (k := k) (by rw [hx'.out]; exact hlt)
      cases e1
      generalize xs.getD k 0 = x at *
      go_wp2
      go_roundw
      case rel => exact ⟨k + 1, by omega, by go_num, rfl, hq⟩
      case measure => simp [intOf]; omega
    · go_wp2
      go_ret
      exact ⟨rfl, hq⟩

theorem dot_any (xs ys : List Nat) (Z : Nat → Nat) (A A' : Option Addr) (c c' n m B : Nat) (w : World) (hx : xs.length = n) (hy : ys.length = m) (hn : n ≤ 9223372036854775807) (hm : m ≤ 9223372036854775807)
    (h1 : Rd w B A (fl xs)) (h2 : Rd w B A' (fl ys)) (hZ : DotTo xs ys Z (min n m)) :
    Calls Try.prog 24 #[.float .f64 (Z 0), .slice A n c, .slice A' m c'] w fun e w' => e = .returned (.float .f64 (Z (min n m))) ∧ Qt w w' := by
  rcases Nat.eq_zero_or_pos n with h0 | h0
  · rw [h0, Nat.zero_min]; exact dot_nil _ A A' c c' m w
  · obtain ⟨ad, rfl, _, _⟩ := h1.fl (k := 0) (by omega)
    rcases Nat.eq_zero_or_pos m with m0 | m0
    · rw [m0, Nat.min_zero]; exact dot_none xs _ ad A' c c' n B w hx hn h1
    · obtain ⟨ad', rfl, _, _⟩ := h2.fl (k := 0) (by omega)
      exact dot_cons xs ys Z ad ad' c c' n m B w hx hy hn hm h1 h2 hZ
end Go.Proofs.Ytcgbghmeommmfaa
