/-
  Contract of impl.Scale: Ldexp of each number, in a new row.
-/
import Derived.Test.YtmhdjhfkndfhmaaLdx
namespace Go.Proofs.Ytmhdjhfkndfhmaa
open Go.RowKit Flt

def scl (e : Int) (xs : List Nat) : List Nat := xs.map fun x => ld x (ex e)
theorem scl_len (e : Int) (xs : List Nat) : (scl e xs).length = xs.length := by simp [scl]
theorem scl_get {e : Int} {xs : List Nat} {k : Nat} (h : k < xs.length) : (scl e xs).getD k 0 = ld (xs.getD k 0) (ex e) := by
  unfold scl
  rw [List.getD_eq_getElem?_getD, List.getD_eq_getElem?_getD, List.getElem?_map, List.getElem?_eq_getElem h]; rfl
theorem scl_snoc {e : Int} {xs : List Nat} {k : Nat} (h : k < xs.length) : fl (scl e (xs.take (k + 1))) = fl (scl e (xs.take k)) ++ [Value.float .f64 (ld (xs.getD k 0) (ex e))] := by
  rw [take_snoc xs k 0 h]; unfold scl; rw [List.map_append, fl_append]; rfl

set_option maxHeartbeats 800000 in
theorem scale_cons (xs : List Nat) (e : Int) (A : Addr) (c n B : Nat) (w : World) (hx : xs.length = n) (hw : ∀ b ∈ xs, b < 2 ^ 64) (hn : n * 8 ≤ 140737488351232) (hB : B ≤ w.heap.size)
    (h1 : Rd w B (some A) (fl xs)) :
    Calls Try.prog 30 #[.slice (some A) n c, .int .i64 e] w (NewRow 22 w.heap.size w (fl (scl e xs))) := by
  obtain ⟨i0, hi, hz0, hz1, hz2⟩ := info_parts Try.infoF
  have hx' := Lib.hid hx
  have hw' := Lib.hid hw
  have b0 := Int.emod_nonneg e (show (8001 : Int) ≠ 0 by omega)
  have b1 := Int.emod_lt_of_pos e (show (0 : Int) < 8001 by omega)
  clear hx hw
  go_enter Try.func30, Try.ntmps30
  go_wp2
  go_loopw [5, 7, 11] (fun v _ i wr => ∃ k : Nat, k ≤ n ∧ i = .int .i64 k ∧ wr.ownsRow w.heap.size 22 1 v (fl (scl e (xs.take k))).length (fl (scl e (xs.take k))) ∧ Below w.heap.size w wr)
    (fun _ _ i _ => n - (intOf i).toNat)
  case atStart => exact ⟨0, Nat.zero_le _, rfl, World.ownsRow_lit w #[] 0 (Nat.le_refl _) (by decide) rfl, (Below.refl _ _).alloc (Nat.le_refl _) _⟩
  case round =>
    obtain ⟨k, hk, rfl, hown, hbel⟩ := hrel
    have hsz := hbel.size
    by_cases hlt : k < n
    · obtain ⟨ad, e1, _, c1⟩ := (h1.below' hbel hB).fl (k := k) (by rw [hx'.out]; exact hlt)
      cases e1
      have hS := Lib.hid (scl_snoc (e := e) (xs := xs) (k := k) (by rw [hx'.out]; exact hlt))
      have hL : Hid ((fl (scl e (xs.take k))).length = k) := by
        show _ = _
        rw [fl_len, scl_len, List.length_take, hx'.out]; omega
      have hm := hw'.out _ (getD_mem xs k 0 (by rw [hx'.out]; exact hlt))
      generalize xs.getD k 0 = x at *
      have hb := ex_bd e
      have H := Lib.hid (fun W : World => ldexp_any x (ex e) W hm (by omega) (by omega))
      have he : Hid (ex e = e % 8001 - 4000) := rfl
      rw [he.out] at H hS
      clear hb he hm
      go_wp2_with (first | (go_at_call 39; ((with_reducible refine (at_any _ _ _ (by decide) (by decide)).mono ?_)); rintro e w' ⟨rfl, rfl⟩) | (go_at_call 38; ((with_reducible refine (H.out _).mono ?_)); rintro e w' ⟨rfl, rfl⟩) | (at_builtin; refine wpList_append_own _ rfl _ _ 23 rfl w.heap.size 22 i0 (.float .f64 0) 1 8 Try.underlying23 hi hz0 hz1 hz2 rfl (by decide) _ _ _ rfl (hown.alloc _) ⟨wr.heap.size, 0, none⟩ 1 1 [.float .f64 (ld x (e % 8001 - 4000))] rfl rfl (news_one _ _ _) ?c2 ?c3 ?c4 ?c5 ?_))
      case c2 => intro u hu; simp at hu; subst hu; rfl
      case c3 => rw [hL.out]; unfold maxLen; omega
      case c4 => rw [hL.out]; omega
      case c5 => simp; omega
      intro v' w1 hown' hgrow _
      have hown2 : Hid (w1.ownsRow w.heap.size 22 1 v' (fl (scl e (xs.take (k + 1)))).length (fl (scl e (xs.take (k + 1))))) := by
        show w1.ownsRow _ _ _ _ _ _
        rw [hS.out, List.length_append]; exact hown'
      have hbel2 : Below w.heap.size w w1 := (hbel.alloc hsz _).grown hgrow (by simp; omega) (fun g hg => (hown.lt g hg).1)
      clear hown' hgrow hown hbel c1
      go_wp2
      go_roundw
      case rel => exact ⟨k + 1, by omega, by go_num, hown2.out, hbel2⟩
      case measure => simp [intOf]; omega
    · have hkm : xs.take k = xs := List.take_of_length_le (by rw [hx'.out]; omega)
      have hN := Lib.hid (NewRow.mk hown hbel)
      rw [hkm] at hN
      clear hkm hown hbel
      go_wp2
      go_ret
      exact hN.out

set_option maxHeartbeats 400000 in
theorem scale_nil (A : Option Addr) (e : Int) (c : Nat) (w : World) :
    Calls Try.prog 30 #[.slice A 0 c, .int .i64 e] w (NewRow 22 w.heap.size w []) := by
  go_enter Try.func30, Try.ntmps30
  go_wp2
  refine wp_loop_rounds 1 ?_
  rw [rounds_succ]
  go_wp2
  go_ret
  exact NewRow.mk (World.ownsRow_lit w #[] 0 (Nat.le_refl _) (by decide) rfl) ((Below.refl _ _).alloc (Nat.le_refl _) _)

theorem scale_any (xs : List Nat) (e : Int) (A : Option Addr) (c n B : Nat) (w : World) (hx : xs.length = n) (hw : ∀ b ∈ xs, b < 2 ^ 64) (hn : n * 8 ≤ 140737488351232) (hB : B ≤ w.heap.size)
    (h1 : Rd w B A (fl xs)) :
    Calls Try.prog 30 #[.slice A n c, .int .i64 e] w (NewRow 22 w.heap.size w (fl (scl e xs))) := by
  rcases Nat.eq_zero_or_pos n with h0 | h0
  · subst h0
    obtain rfl : xs = [] := List.eq_nil_of_length_eq_zero hx
    exact scale_nil A e c w
  · obtain ⟨ad, rfl, _, _⟩ := h1.fl (k := 0) (by omega)
    exact scale_cons xs e _ c n B w hx hw hn hB h1

end Go.Proofs.Ytmhdjhfkndfhmaa
