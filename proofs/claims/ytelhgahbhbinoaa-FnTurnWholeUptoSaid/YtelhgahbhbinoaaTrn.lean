/-
  Contract of impl.Turn, on values.
-/
import Derived.Test.YtelhgahbhbinoaaLibF
import Derived.Test.YtelhgahbhbinoaaAns
namespace Go.Proofs.Ytelhgahbhbinoaa
open Go.RowKit Flt

/-- a turn by steps, on values -/
def turnv (y s : Val) (l : List Val) : Val := l.foldl (fun a b => remv (addv a b) y) s
theorem turnv_snoc (y s : Val) (l : List Val) (b : Val) : turnv y s (l ++ [b]) = remv (addv (turnv y s l) b) y := by
  unfold turnv; rw [List.foldl_append]; rfl
theorem turnv_append (y s : Val) (l m : List Val) : turnv y s (l ++ m) = turnv y (turnv y s l) m := by
  unfold turnv; rw [List.foldl_append]

/-- a word of this value comes back, and nothing but draws has been made -/
def GivesVal (V : Val) (w : World) (e : Ending) (w' : World) : Prop := ∃ b, e = .returned (.float .f64 b) ∧ vl b = V ∧ b < 2 ^ 64 ∧ Qt w w'

theorem map_take_snoc {xs : List Nat} {k : Nat} (h : k < xs.length) : (xs.take (k + 1)).map vl = (xs.take k).map vl ++ [vl (xs.getD k 0)] := by
  rw [take_snoc xs k 0 h, List.map_append]; rfl

set_option maxHeartbeats 800000 in
theorem turn_any (s y : Nat) (xs : List Nat) (A : Option Addr) (c n B : Nat) (w : World) (hs : s < 2 ^ 64) (hy : y < 2 ^ 64) (hx : xs.length = n) (hn : n ≤ 9223372036854775807) (h1 : Rd w B A (fl xs)) :
    Calls Try.prog 27 #[.float .f64 s, .slice A n c, .float .f64 y] w (GivesVal (turnv (vl y) (vl s) (xs.map vl)) w) := by
  have hx' := Lib.hid hx
  clear hx
  go_enter Try.func27, Try.ntmps27
  go_wp2
  go_loopw [0, 8, 11] (fun z _ i wr => ∃ k b : Nat, k ≤ n ∧ i = .int .i64 k ∧ z = .float .f64 b ∧ b < 2 ^ 64 ∧ Hid (vl b = turnv (vl y) (vl s) ((xs.take k).map vl)) ∧ Qt w wr) (fun _ _ i _ => n - (intOf i).toNat)
  case atStart => exact ⟨0, s, Nat.zero_le _, rfl, rfl, hs, rfl, Qt.refl _⟩
  case round =>
    obtain ⟨k, b, hk, rfl, rfl, hb, hv, hq⟩ := hrel
    by_cases hlt : k < n
    · obtain ⟨ad, e1, _, c1⟩ := (h1.qt hq).fl (k := k) (by rw [hx'.out]; exact hlt)
      cases e1
      have hst := Lib.hid (turnv_snoc (vl y) (vl s) ((xs.take k).map vl) (vl (xs.getD k 0)))
      rw [← map_take_snoc (by rw [hx'.out]; exact hlt), ← hv.out] at hst
      generalize xs.getD k 0 = x at *
      obtain ⟨g, g', hrun, hans⟩ := add_ans b x
      have H := Lib.hid (fun (W v : World) => remainder_any (g v) y W (hans.lt v) hy)
      have hvv : Hid (∀ v : World, vl (remW (g v) y) = turnv (vl y) (vl s) ((xs.take (k + 1)).map vl)) := fun v => by
        rw [vl_remW, hans.val v, hst.out]
      have hlv : Hid (∀ v : World, remW (g v) y < 2 ^ 64) := fun v => remW_lt (hans.lt v)
      have hqv := Lib.hid (fun v : World => hans.qt v)
      clear hans hst hv
      go_wp2_with (go_at_call 35; ((with_reducible refine (H.out _ _).mono ?_)); rintro e w' ⟨rfl, rfl⟩)
      go_roundw
      case rel => exact ⟨k + 1, _, by omega, by go_num, rfl, hlv.out _, hvv.out _, hq.trans (hqv.out _)⟩
      case measure => simp [intOf]; omega
    · have hkm : Hid (vl b = turnv (vl y) (vl s) (xs.map vl)) := by
        have := hv.out
        rw [List.take_of_length_le (by rw [hx'.out]; omega)] at this
        exact this
      go_wp2
      go_ret
      exact ⟨b, rfl, hkm.out, hb, hq⟩

set_option maxHeartbeats 400000 in
theorem turn_nil (s y : Nat) (A : Option Addr) (c : Nat) (w : World) :
    Calls Try.prog 27 #[.float .f64 s, .slice A 0 c, .float .f64 y] w fun e w' => e = .returned (.float .f64 s) ∧ w = w' := by
  go_enter Try.func27, Try.ntmps27
  go_wp2
  refine wp_loop_rounds 1 ?_
  rw [rounds_succ]
  go_wp2
  go_ret
  exact ⟨rfl, rfl⟩
theorem one_two : (FloatKind.f64.format.order 4607182418800017408 4607182418800017408 == some .eq) = true := by
  rw [c_self']; rfl
end Go.Proofs.Ytelhgahbhbinoaa
