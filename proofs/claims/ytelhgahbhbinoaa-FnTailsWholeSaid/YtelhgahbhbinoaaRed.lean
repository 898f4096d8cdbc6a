/-
  Contracts of impl.Mod and impl.Reduce.
-/
import Derived.Test.YtelhgahbhbinoaaLibE
import Derived.Test.YtelhgahbhbinoaaMem
namespace Go.Proofs.Ytelhgahbhbinoaa
open Go.RowKit Flt

set_option maxHeartbeats 400000 in
theorem impMod_any (x y : Nat) (w : World) (hx : x < 2 ^ 64) (hy : y < 2 ^ 64) :
    Calls Try.prog 18 #[.float .f64 x, .float .f64 y] w fun e w' => e = .returned (.float .f64 (modW x y)) ∧ w = w' := by
  have H := Lib.hid (fun W : World => mod_any x y W hx hy)
  clear hx hy
  go_enter Try.func18, Try.ntmps18
  go_wp2_with (go_at_call 32; ((with_reducible refine (H.out _).mono ?_)); rintro e w' ⟨rfl, rfl⟩)
  go_ret
  exact ⟨rfl, rfl⟩

/-- all remainders, one after the other -/
def redW (x : Nat) (l : List Nat) : Nat := l.foldl modW x
theorem redW_lt {x : Nat} (hx : x < 2 ^ 64) (l : List Nat) : redW x l < 2 ^ 64 := by
  induction l generalizing x with
  | nil => exact hx
  | cons y l ih => exact ih modW_lt
theorem redW_snoc (x : Nat) (l : List Nat) (y : Nat) : redW x (l ++ [y]) = modW (redW x l) y := by
  unfold redW; rw [List.foldl_append]; rfl

set_option maxHeartbeats 800000 in
theorem reduce_cons (x : Nat) (xs : List Nat) (A : Addr) (c n B : Nat) (w : World) (h0 : x < 2 ^ 64) (hx : xs.length = n) (hw : ∀ b ∈ xs, b < 2 ^ 64) (hn : n ≤ 9223372036854775807) (h1 : Rd w B (some A) (fl xs)) :
    Calls Try.prog 20 #[.float .f64 x, .slice (some A) n c] w fun e w' => e = .returned (.float .f64 (redW x xs)) ∧ w = w' := by
  have hx' := Lib.hid hx
  have hw' := Lib.hid hw
  clear hx hw
  go_enter Try.func20, Try.ntmps20
  go_wp2
  go_loopw [0, 6, 9] (fun z _ i wr => ∃ k : Nat, k ≤ n ∧ i = .int .i64 k ∧ z = .float .f64 (redW x (xs.take k)) ∧ wr = w) (fun _ _ i _ => n - (intOf i).toNat)
  case atStart => exact ⟨0, Nat.zero_le _, rfl, rfl, rfl⟩
  case round =>
    obtain ⟨k, hk, rfl, rfl, rfl⟩ := hrel
    by_cases hlt : k < n
    · obtain ⟨ad, e1, _, c1⟩ := h1.fl (k := k) (by rw [hx'.out]; exact hlt)
      cases e1
      have hs : Hid (redW x (xs.take (k + 1)) = modW (redW x (xs.take k)) (xs.getD k 0)) := by
        show _ = _
        rw [take_snoc xs k 0 (by rw [hx'.out]; exact hlt), redW_snoc]
      have hm := hw'.out _ (getD_mem xs k 0 (by rw [hx'.out]; exact hlt))
      have hl := redW_lt h0 (xs.take k)
      generalize xs.getD k 0 = y at *
      generalize redW x (xs.take k) = z at *
      have H := Lib.hid (fun W : World => mod_any z y W hl hm)
      clear hl hm
      go_wp2_with (go_at_call 32; ((with_reducible refine (H.out _).mono ?_)); rintro e w' ⟨rfl, rfl⟩)
      go_roundw
      case rel => exact ⟨k + 1, by omega, by go_num, by rw [hs.out], (by first | rfl | trivial)⟩
      case measure => simp [intOf]; omega
    · have hkm : Hid (redW x (xs.take k) = redW x xs) := by show _ = _; rw [List.take_of_length_le (by rw [hx'.out]; omega)]
      go_wp2
      go_ret
      exact ⟨ret_float hkm.out, rfl⟩

set_option maxHeartbeats 400000 in
theorem reduce_nil (x : Nat) (A : Option Addr) (c : Nat) (w : World) :
    Calls Try.prog 20 #[.float .f64 x, .slice A 0 c] w fun e w' => e = .returned (.float .f64 x) ∧ w = w' := by
  go_enter Try.func20, Try.ntmps20
  go_wp2
  refine wp_loop_rounds 1 ?_
  rw [rounds_succ]
  go_wp2
  go_ret
  exact ⟨rfl, rfl⟩

theorem reduce_any (x : Nat) (xs : List Nat) (A : Option Addr) (c n B : Nat) (w : World) (h0 : x < 2 ^ 64) (hx : xs.length = n) (hw : ∀ b ∈ xs, b < 2 ^ 64) (hn : n ≤ 9223372036854775807) (h1 : Rd w B A (fl xs)) :
    Calls Try.prog 20 #[.float .f64 x, .slice A n c] w fun e w' => e = .returned (.float .f64 (redW x xs)) ∧ w = w' := by
  rcases Nat.eq_zero_or_pos n with hz | hz
  · obtain rfl := hz
    obtain rfl : xs = [] := List.eq_nil_of_length_eq_zero hx
    exact reduce_nil x A c w
  · obtain ⟨ad, rfl, _, _⟩ := h1.fl (k := 0) (by omega)
    exact reduce_cons x xs ad c n B w h0 hx hw hn h1

theorem one_one : (FloatKind.f64.format.order 4607182418800017408 4607182418800017408 == some .eq) = true := by
  rw [c_self']; rfl
end Go.Proofs.Ytelhgahbhbinoaa
