/-
  Contracts of the reference: Reduce, Turn, on values.
-/
import Derived.Test.YtelhgahbhbinoaaSpR
import Derived.Test.YtelhgahbhbinoaaTrn
namespace Go.Proofs.Ytelhgahbhbinoaa
open Go.RowKit Flt

/-- all remainders, one after the other, on values -/
def redv (x : Val) (l : List Val) : Val := l.foldl modv x
theorem redv_snoc (x : Val) (l : List Val) (y : Val) : redv x (l ++ [y]) = modv (redv x l) y := by
  unfold redv; rw [List.foldl_append]; rfl

set_option maxHeartbeats 800000 in
theorem specReduce_any (s : Nat) (xs : List Nat) (A : Option Addr) (c n B : Nat) (w : World) (hs : s < 2 ^ 64) (hx : xs.length = n) (hw : ∀ b ∈ xs, b < 2 ^ 64) (hn : n ≤ 9223372036854775807) (hB : B ≤ w.heap.size) (h1 : Rd w B A (fl xs)) :
    Calls Try.prog 21 #[.float .f64 s, .slice A n c] w (SpGives (redv (vl s) (xs.map vl)) w) := by
  have hx' := Lib.hid hx
  have hw' := Lib.hid hw
  clear hx hw
  go_enter Try.func21, Try.ntmps21
  go_wp2
  go_loopw [0, 6, 9] (fun z _ i wr => ∃ k b : Nat, k ≤ n ∧ i = .int .i64 k ∧ z = .float .f64 b ∧ b < 2 ^ 64 ∧ Hid (vl b = redv (vl s) ((xs.take k).map vl)) ∧ Below w.heap.size w wr) (fun _ _ i _ => n - (intOf i).toNat)
  case atStart => exact ⟨0, s, Nat.zero_le _, rfl, rfl, hs, rfl, Below.refl _ _⟩
  case round =>
    obtain ⟨k, b, hk, rfl, rfl, hb, hv, hbel⟩ := hrel
    by_cases hlt : k < n
    · obtain ⟨ad, e1, _, c1⟩ := (h1.below' hbel hB).fl (k := k) (by rw [hx'.out]; exact hlt)
      cases e1
      have hst := Lib.hid (redv_snoc (vl s) ((xs.take k).map vl) (vl (xs.getD k 0)))
      rw [← map_take_snoc (by rw [hx'.out]; exact hlt), ← hv.out] at hst
      have hm := hw'.out _ (getD_mem xs k 0 (by rw [hx'.out]; exact hlt))
      generalize xs.getD k 0 = y at *
      have H := Lib.hid (fun W : World => specMod_any b y W hb hm)
      rw [← hst.out] at H
      clear hst hv hm
      go_wp2_with (go_at_call 33; ((with_reducible refine (H.out _).mono ?_)); rintro e w2 ⟨b2, rfl, v2, l2, bel2⟩; have V2 := Lib.hid v2; clear v2)
      go_roundw
      case rel => exact ⟨k + 1, b2, by omega, by go_num, rfl, l2, V2.out, hbel.trans (bel2.mono hbel.size)⟩
      case measure => simp [intOf]; omega
    · have hkm : Hid (vl b = redv (vl s) (xs.map vl)) := by
        have := hv.out
        rw [List.take_of_length_le (by rw [hx'.out]; omega)] at this
        exact this
      go_wp2
      go_ret
      exact ⟨b, rfl, hkm.out, hb, hbel⟩

set_option maxHeartbeats 800000 in
theorem specTurn_any (s y : Nat) (xs : List Nat) (A : Option Addr) (c n B : Nat) (w : World) (hs : s < 2 ^ 64) (hy : y < 2 ^ 64) (hx : xs.length = n) (hn : n ≤ 9223372036854775807) (hB : B ≤ w.heap.size) (h1 : Rd w B A (fl xs)) :
    Calls Try.prog 29 #[.float .f64 s, .slice A n c, .float .f64 y] w (SpGives (turnv (vl y) (vl s) (xs.map vl)) w) := by
  have hx' := Lib.hid hx
  clear hx
  go_enter Try.func29, Try.ntmps29
  go_wp2
  go_loopw [0, 8, 11] (fun z _ i wr => ∃ k b : Nat, k ≤ n ∧ i = .int .i64 k ∧ z = .float .f64 b ∧ b < 2 ^ 64 ∧ Hid (vl b = turnv (vl y) (vl s) ((xs.take k).map vl)) ∧ Below w.heap.size w wr) (fun _ _ i _ => n - (intOf i).toNat)
  case atStart => exact ⟨0, s, Nat.zero_le _, rfl, rfl, hs, rfl, Below.refl _ _⟩
  case round =>
    obtain ⟨k, b, hk, rfl, rfl, hb, hv, hbel⟩ := hrel
    by_cases hlt : k < n
    · obtain ⟨ad, e1, _, c1⟩ := (h1.below' hbel hB).fl (k := k) (by rw [hx'.out]; exact hlt)
      cases e1
      have hst := Lib.hid (turnv_snoc (vl y) (vl s) ((xs.take k).map vl) (vl (xs.getD k 0)))
      rw [← map_take_snoc (by rw [hx'.out]; exact hlt), ← hv.out] at hst
      generalize xs.getD k 0 = x at *
      obtain ⟨g, g', hrun, hans⟩ := add_ans b x
      have H : Hid (∀ (v W : World), Calls Try.prog 36 #[.float .f64 (g v), .float .f64 y] W (SpGives (turnv (vl y) (vl s) ((xs.take (k + 1)).map vl)) W)) := fun v W => by
        have := specRem_any (g v) y W (hans.lt v) hy
        rw [hans.val v, ← hst.out] at this
        exact this
      have hqv := Lib.hid (fun v : World => hans.qt v)
      clear hans hst hv
      go_wp2_with (go_at_call 36; ((with_reducible refine (H.out _ _).mono ?_)); rintro e w2 ⟨b2, rfl, v2, l2, bel2⟩; have V2 := Lib.hid v2; clear v2)
      go_roundw
      case rel => exact ⟨k + 1, b2, by omega, by go_num, rfl, l2, V2.out, (hbel.trans ((hqv.out _).below _)).trans (bel2.mono (Nat.le_trans hbel.size (Nat.le_of_eq (hqv.out _).size.symm)))⟩
      case measure => simp [intOf]; omega
    · have hkm : Hid (vl b = turnv (vl y) (vl s) (xs.map vl)) := by
        have := hv.out
        rw [List.take_of_length_le (by rw [hx'.out]; omega)] at this
        exact this
      go_wp2
      go_ret
      exact ⟨b, rfl, hkm.out, hb, hbel⟩
end Go.Proofs.Ytelhgahbhbinoaa
