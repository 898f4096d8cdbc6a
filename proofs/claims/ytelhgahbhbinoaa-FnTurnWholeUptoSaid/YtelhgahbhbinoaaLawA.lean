/-
  Contracts of the laws' helpers: same, sameAll.
-/
import Derived.Test.YtelhgahbhbinoaaImpA
namespace Go.Proofs.Ytelhgahbhbinoaa
open Go.RowKit Flt

set_option maxHeartbeats 400000 in
theorem same_any (a b : Nat) (w : World) :
    Calls Try.prog 19 #[.float .f64 a, .float .f64 b] w fun e w' => e = .returned (.bool (same a b)) ∧ w = w' := by
  have hs : Hid (same a b = ((FloatKind.f64.format.order a b == some .eq) || ((FloatKind.f64.format.order a a != some .eq) && (FloatKind.f64.format.order b b != some .eq)))) := rfl
  have h0 := Lib.hid (c_self a)
  have h1 := Lib.hid (c_self b)
  generalize same a b = r at *
  cases e1 : (FloatKind.f64.format.order a b == some .eq)
  · cases e2 : (FloatKind.f64.format.order a a != some .eq)
    · have hr : Hid (r = false) := by have := hs.out; rw [e1, e2] at this; exact this
      clear hs h0 h1
      go_enter Try.func19, Try.ntmps19
      go_wp2
      go_ret
      exact ⟨by rw [hr.out]; rfl, rfl⟩
    · have hr : Hid (r = (FloatKind.f64.format.order b b != some .eq)) := by have := hs.out; rw [e1, e2] at this; exact this
      clear hs h0 h1
      go_enter Try.func19, Try.ntmps19
      go_wp2
      go_ret
      exact ⟨by rw [hr.out]; rfl, rfl⟩
  · have hr : Hid (r = true) := by have := hs.out; rw [e1] at this; exact this
    clear hs h0 h1
    go_enter Try.func19, Try.ntmps19
    go_wp2
    go_ret
    exact ⟨by rw [hr.out]; rfl, rfl⟩

set_option maxHeartbeats 800000 in
theorem sameAll_cons (xs ys : List Nat) (A A' : Addr) (c c' n B : Nat) (w : World) (hx : xs.length = n) (hy : ys.length = n) (hn : n ≤ 9223372036854775807)
    (h1 : Rd w B (some A) (fl xs)) (h2 : Rd w B (some A') (fl ys)) (hs : ∀ k, k < n → same (xs.getD k 0) (ys.getD k 0) = true) :
    Calls Try.prog 24 #[.slice (some A) n c, .slice (some A') n c'] w fun e w' => e = .returned (.bool true) ∧ Qt w w' := by
  have hx' := Lib.hid hx
  have hy' := Lib.hid hy
  have hs' := Lib.hid hs
  clear hx hy hs
  go_enter Try.func24, Try.ntmps24
  go_wp2
  go_loopw [5, 13] (fun _ i wr => ∃ k : Nat, k ≤ n ∧ i = .int .i64 k ∧ Qt w wr) (fun _ i _ => n - (intOf i).toNat)
  case atStart => exact ⟨0, Nat.zero_le _, rfl, Qt.refl _⟩
  case round =>
    obtain ⟨k, hk, rfl, hq⟩ := hrel
    by_cases hlt : k < n
    · obtain ⟨ad, e1, _, c1⟩ := (h1.qt hq).fl (k := k) (by rw [hx'.out]; exact hlt)
      obtain ⟨ad', e2, _, c2⟩ := (h2.qt hq).fl (k := k) (by rw [hy'.out]; exact hlt)
      have hsk := hs'.out k hlt
      cases e1; cases e2
      generalize xs.getD k 0 = x at *
      generalize ys.getD k 0 = y at *
      go_wp2
      go_quiet ((go_at_call 19; exact quiet_w (same_any _ _ _)))
      go_wp2
      go_roundw
      case rel => exact ⟨k + 1, by omega, by go_num, hq.drewN _⟩
      case measure => simp [intOf]; omega
    · go_wp2
      go_ret
      exact ⟨rfl, hq⟩

set_option maxHeartbeats 400000 in
theorem sameAll_nil (A A' : Option Addr) (c c' : Nat) (w : World) :
    Calls Try.prog 24 #[.slice A 0 c, .slice A' 0 c'] w fun e w' => e = .returned (.bool true) ∧ Qt w w' := by
  go_enter Try.func24, Try.ntmps24
  go_wp2
  refine wp_loop_rounds 1 ?_
  rw [rounds_succ]
  go_wp2
  go_ret
  exact ⟨rfl, Qt.refl _⟩

/-- the same numbers at all places -/
def Alls (xs ys : List Nat) : Prop := xs.length = ys.length ∧ ∀ k, k < xs.length → same (xs.getD k 0) (ys.getD k 0) = true

theorem sameAll_any (xs ys : List Nat) (A A' : Option Addr) (c c' n n' B : Nat) (w : World) (hx : xs.length = n) (hy : ys.length = n') (hn : n ≤ 9223372036854775807)
    (h1 : Rd w B A (fl xs)) (h2 : Rd w B A' (fl ys)) (hs : Alls xs ys) :
    Calls Try.prog 24 #[.slice A n c, .slice A' n' c'] w fun e w' => e = .returned (.bool true) ∧ Qt w w' := by
  obtain rfl : n' = n := by rw [← hx, ← hy]; exact hs.1.symm
  rcases Nat.eq_zero_or_pos n' with h0 | h0
  · rw [h0]; exact sameAll_nil A A' c c' w
  · obtain ⟨ad, rfl, _, _⟩ := h1.fl (k := 0) (by omega)
    obtain ⟨ad', rfl, _, _⟩ := h2.fl (k := 0) (by omega)
    exact sameAll_cons xs ys _ _ c c' n' B w hx hy hn h1 h2 fun k hk => hs.2 k (by omega)

set_option maxHeartbeats 400000 in
theorem specAt_any (i n : Int) (w : World) (hn : 0 < n) (hn' : n ≤ 4611686018427387904) :
    Calls Try.prog 26 #[.int .i64 i, .int .i64 n] w fun e w' => e = .returned (.int .i64 (i % n)) ∧ w = w' := by
  have h := Lib.hid (at_mod i n hn hn')
  go_enter Try.func26, Try.ntmps26
  go_wp2
  go_ret
  exact ⟨ret_int h.out, rfl⟩

end Go.Proofs.Ytelhgahbhbinoaa
