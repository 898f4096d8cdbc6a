/-
  Contract of laws.reversed: the numbers from the last one to the first one, in a new row.
-/
import Derived.Test.YtcgbghmeommmfaaLawA
namespace Go.Proofs.Ytcgbghmeommmfaa
open Go.RowKit Flt

/-- the last k numbers, the last one first -/
def revs (xs : List Nat) (k : Nat) : List Nat := xs.reverse.take k
theorem revs_snoc {xs : List Nat} {k : Nat} (h : k < xs.length) : fl (revs xs (k + 1)) = fl (revs xs k) ++ [Value.float .f64 (xs.getD (xs.length - 1 - k) 0)] := by
  unfold revs
  rw [take_snoc xs.reverse k 0 (by simpa using h), fl_append, List.getD_eq_getElem?_getD, List.getElem?_reverse h, List.getD_eq_getElem?_getD]; rfl
theorem revs_len {xs : List Nat} {k : Nat} (h : k ≤ xs.length) : (fl (revs xs k)).length = k := by
  unfold revs; rw [fl_len, List.length_take, List.length_reverse]; omega
theorem revs_all (xs : List Nat) : revs xs xs.length = xs.reverse := by
  unfold revs; exact List.take_of_length_le (by simp)

set_option maxHeartbeats 800000 in
theorem reversed_cons (xs : List Nat) (A : Addr) (c n B : Nat) (w : World) (hx : xs.length = n) (hn : n * 8 ≤ 140737488351232) (hB : B ≤ w.heap.size)
    (h1 : Rd w B (some A) (fl xs)) :
    Calls Try.prog 19 #[.slice (some A) n c] w (NewRow 22 w.heap.size w (fl xs.reverse)) := by
  obtain ⟨i0, hi, hz0, hz1, hz2⟩ := info_parts Try.infoF
  have hx' := Lib.hid hx
  clear hx
  go_enter Try.func19, Try.ntmps19
  go_wp2
  go_loopw [3, 4] (fun v i wr => ∃ k : Nat, k ≤ n ∧ i = .int .i64 ((n : Int) - 1 - k) ∧ wr.ownsRow w.heap.size 22 1 v (fl (revs xs k)).length (fl (revs xs k)) ∧ Below w.heap.size w wr)
    (fun _ i _ => (intOf i + 1).toNat)
  case atStart => exact ⟨0, Nat.zero_le _, by go_num, World.ownsRow_lit w #[] 0 (Nat.le_refl _) (by decide) rfl, (Below.refl _ _).alloc (Nat.le_refl _) _⟩
  case round =>
    obtain ⟨k, hk, rfl, hown, hbel⟩ := hrel
    have hsz := hbel.size
    by_cases hlt : k < n
    · obtain ⟨j, hj⟩ : ∃ j : Nat, j + k + 1 = n := ⟨n - 1 - k, by omega⟩
      obtain ⟨ad, e1, _, c1⟩ := (h1.below' hbel hB).fl (k := j) (by rw [hx'.out]; omega)
      cases e1
      have hS := Lib.hid (revs_snoc (xs := xs) (k := k) (by rw [hx'.out]; exact hlt))
      rw [hx'.out, show n - 1 - k = j by omega] at hS
      have hL := Lib.hid (revs_len (xs := xs) (k := k) (by rw [hx'.out]; exact hk))
      rw [show (n : Int) - 1 - k = (j : Int) by omega]
      generalize xs.getD j 0 = x at *
      have hjl : j < n := by omega
      have hj' := Lib.hid hj
      clear hj
      go_wp2_with (at_builtin; refine wpList_append_own _ rfl _ _ 23 rfl w.heap.size 22 i0 (.float .f64 0) 1 8 Try.underlying23 hi hz0 hz1 hz2 rfl (by decide) _ _ _ rfl (hown.alloc _) ⟨wr.heap.size, 0, none⟩ 1 1 [.float .f64 x] rfl rfl (news_one _ _ _) ?c2 ?c3 ?c4 ?c5 ?_)
      case c2 => intro u hu; simp at hu; subst hu; rfl
      case c3 => rw [hL.out]; unfold maxLen; omega
      case c4 => rw [hL.out]; omega
      case c5 => simp; omega
      intro v' w1 hown' hgrow _
      have hown2 : Hid (w1.ownsRow w.heap.size 22 1 v' (fl (revs xs (k + 1))).length (fl (revs xs (k + 1)))) := by
        show w1.ownsRow _ _ _ _ _ _
        rw [hS.out, List.length_append]; exact hown'
      have hbel2 : Below w.heap.size w w1 := (hbel.alloc hsz _).grown hgrow (by simp; omega) (fun g hg => (hown.lt g hg).1)
      clear hown' hgrow hown hbel c1
      go_wp2
      go_roundw
      case rel => exact ⟨k + 1, by omega, by have := hj'.out; go_num, hown2.out, hbel2⟩
      case measure => have := hj'.out; simp [intOf]
    · have hkm : k = xs.length := by rw [hx'.out]; omega
      have hN := Lib.hid (NewRow.mk hown hbel)
      rw [hkm, revs_all] at hN
      rw [show (n : Int) - 1 - k = -1 by rw [hkm, hx'.out]; omega]
      clear hkm hown hbel
      go_wp2
      go_ret
      exact hN.out

set_option maxHeartbeats 400000 in
theorem reversed_nil (A : Option Addr) (c : Nat) (w : World) :
    Calls Try.prog 19 #[.slice A 0 c] w (NewRow 22 w.heap.size w []) := by
  go_enter Try.func19, Try.ntmps19
  go_wp2
  refine wp_loop_rounds 1 ?_
  rw [rounds_succ]
  go_wp2
  go_ret
  exact NewRow.mk (World.ownsRow_lit w #[] 0 (Nat.le_refl _) (by decide) rfl) ((Below.refl _ _).alloc (Nat.le_refl _) _)

theorem reversed_any (xs : List Nat) (A : Option Addr) (c n B : Nat) (w : World) (hx : xs.length = n) (hn : n * 8 ≤ 140737488351232) (hB : B ≤ w.heap.size)
    (h1 : Rd w B A (fl xs)) :
    Calls Try.prog 19 #[.slice A n c] w (NewRow 22 w.heap.size w (fl xs.reverse)) := by
  rcases Nat.eq_zero_or_pos n with h0 | h0
  · subst h0
    obtain rfl : xs = [] := List.eq_nil_of_length_eq_zero hx
    exact reversed_nil A c w
  · obtain ⟨ad, rfl, _, _⟩ := h1.fl (k := 0) (by omega)
    exact reversed_cons xs _ c n B w hx hn hB h1

end Go.Proofs.Ytcgbghmeommmfaa
