/-
  Contract of laws.floats: the words of the integers, in a new row.
-/
import Derived.Test.YtlpcpoganlmiaaaOfi
namespace Go.Proofs.Ytlpcpoganlmiaaa
open Go.RowKit Flt

/-- the words of integers -/
def fls (xs : List Int) : List Nat := xs.map (floatOfInt .f64)
theorem fls_len (xs : List Int) : (fls xs).length = xs.length := by simp [fls]
theorem fls_snoc {xs : List Int} {k : Nat} (h : k < xs.length) : fl (fls (xs.take (k + 1))) = fl (fls (xs.take k)) ++ [Value.float .f64 (floatOfInt .f64 (xs.getD k 0))] := by
  rw [take_snoc xs k 0 h]; unfold fls; rw [List.map_append, fl_append]; rfl

set_option maxHeartbeats 800000 in
theorem floats_cons (xs : List Int) (A : Addr) (c n B : Nat) (w : World) (hx : xs.length = n) (hn : n * 8 ≤ 140737488351232) (hB : B ≤ w.heap.size)
    (h1 : Rd w B (some A) (il xs)) :
    Calls Try.prog 24 #[.slice (some A) n c] w (NewRow 24 w.heap.size w (fl (fls xs))) := by
  obtain ⟨i0, hi, hz0, hz1, hz2⟩ := info_parts Try.infoF
  have hx' := Lib.hid hx
  clear hx
  have hng := conv_run
  go_enter Try.func24, Try.ntmps24
  go_wp2
  go_loopw [3, 5, 9] (fun v _ i wr => ∃ k : Nat, k ≤ n ∧ i = .int .i64 k ∧ wr.ownsRow w.heap.size 24 1 v (fl (fls (xs.take k))).length (fl (fls (xs.take k))) ∧ Below w.heap.size w wr)
    (fun _ _ i _ => n - (intOf i).toNat)
  case atStart => exact ⟨0, Nat.zero_le _, rfl, World.ownsRow_lit w #[] 0 (Nat.le_refl _) (by decide) rfl, (Below.refl _ _).alloc (Nat.le_refl _) _⟩
  case round =>
    obtain ⟨k, hk, rfl, hown, hbel⟩ := hrel
    have hsz := hbel.size
    by_cases hlt : k < n
    · obtain ⟨ad, e1, _, c1⟩ := (h1.below' hbel hB).il (k := k) (by rw [hx'.out]; exact hlt)
      cases e1
      have hS := Lib.hid (fls_snoc (xs := xs) (k := k) (by rw [hx'.out]; exact hlt))
      have hL : Hid ((fl (fls (xs.take k))).length = k) := by
        show _ = _
        rw [fl_len, fls_len, List.length_take, hx'.out]; omega
      generalize xs.getD k 0 = x at *
      go_wp2_with (at_builtin; refine wpList_append_own _ rfl _ _ 22 rfl w.heap.size 24 i0 (.float .f64 0) 1 8 Try.underlying22 hi hz0 hz1 hz2 rfl (by decide) _ _ _ rfl (hown.alloc _) ⟨wr.heap.size, 0, none⟩ 1 1 [.float .f64 (floatOfInt .f64 x)] rfl rfl (news_one _ _ _) ?c2 ?c3 ?c4 ?c5 ?_)
      case c2 => intro u hu; simp at hu; subst hu; rfl
      case c3 => rw [hL.out]; unfold maxLen; omega
      case c4 => rw [hL.out]; omega
      case c5 => simp; omega
      intro v' w1 hown' hgrow _
      have hown2 : Hid (w1.ownsRow w.heap.size 24 1 v' (fl (fls (xs.take (k + 1)))).length (fl (fls (xs.take (k + 1))))) := by
        show w1.ownsRow _ _ _ _ _ _
        rw [hS.out, List.length_append]; exact hown'
      have hbel2 : Below w.heap.size w w1 := (hbel.alloc hsz _).grown hgrow (by simp; omega) (fun g hg => (hown.lt g hg).1)
      clear hown' hgrow hown hbel c1
      go_wp2
      go_roundw
      case rel => exact ⟨k + 1, by omega, by go_num, hown2.out, hbel2⟩
      case measure => simp [intOf]; omega
    · have hkm : xs.take k = xs := List.take_of_length_le (by rw [hx'.out]; omega)
      have hN := Lib.hid (NewRow.mk hown hbel)
      rw [hkm] at hN
      clear hkm hown hbel
      go_wp2
      go_ret
      exact hN.out

set_option maxHeartbeats 400000 in
theorem floats_nil (A : Option Addr) (c : Nat) (w : World) :
    Calls Try.prog 24 #[.slice A 0 c] w (NewRow 24 w.heap.size w []) := by
  go_enter Try.func24, Try.ntmps24
  go_wp2
  refine wp_loop_rounds 1 ?_
  rw [rounds_succ]
  go_wp2
  go_ret
  exact NewRow.mk (World.ownsRow_lit w #[] 0 (Nat.le_refl _) (by decide) rfl) ((Below.refl _ _).alloc (Nat.le_refl _) _)

theorem floats_any (xs : List Int) (A : Option Addr) (c n B : Nat) (w : World) (hx : xs.length = n) (hn : n * 8 ≤ 140737488351232) (hB : B ≤ w.heap.size)
    (h1 : Rd w B A (il xs)) :
    Calls Try.prog 24 #[.slice A n c] w (NewRow 24 w.heap.size w (fl (fls xs))) := by
  rcases Nat.eq_zero_or_pos n with h0 | h0
  · subst h0
    obtain rfl : xs = [] := List.eq_nil_of_length_eq_zero hx
    exact floats_nil A c w
  · obtain ⟨ad, rfl, _, _⟩ := h1.il (k := 0) (by omega)
    exact floats_cons xs _ c n B w hx hn hB h1

end Go.Proofs.Ytlpcpoganlmiaaa
