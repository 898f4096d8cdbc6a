/-
  The walk of laws.FnPathIs: it returns true, for all words x, y and every n.
-/
import Derived.Test.YtcgbghmeommmfaaLawA
import Derived.Test.YtcgbghmeommmfaaPth
import Derived.Test.YtcgbghmeommmfaaSpcD
namespace Go.Proofs.Ytcgbghmeommmfaa.LPathIs
open Go.RowKit Flt

/-- the reference's numbers are the same as the path's, as far as it has come -/
structure Along (y x k : Nat) (ss : List Nat) : Prop where
  len : ss.length = k + 1
  all : ∀ j, j ≤ k → same (ss.getD j 0) (it y x j) = true ∧ ss.getD j 0 < 2 ^ 64

theorem Along.start (y x : Nat) (hx : x < 2 ^ 64) : Along y x 0 [x] := by
  refine ⟨rfl, fun j hj => ?_⟩
  obtain rfl : j = 0 := by omega
  exact ⟨same_refl _, hx⟩
theorem Along.step {y x k : Nat} {ss : List Nat} (h : Along y x k ss) (hx : x < 2 ^ 64) {c : Nat} (hc : same c (nxt (ss.getD k 0) y) = true) (hl : c < 2 ^ 64) : Along y x (k + 1) (ss ++ [c]) := by
  refine ⟨by simp [h.len], fun j hj => ?_⟩
  rcases Nat.lt_or_ge j (k + 1) with hlt | hge
  · rw [List.getD_eq_getElem?_getD, List.getElem?_append_left (by rw [h.len]; omega), ← List.getD_eq_getElem?_getD]
    exact h.all j (by omega)
  · obtain rfl : j = k + 1 := by omega
    rw [List.getD_eq_getElem?_getD, List.getElem?_append_right (by rw [h.len]; omega), h.len]
    simp only [Nat.sub_self, List.getElem?_cons_zero, Option.getD_some]
    obtain ⟨s, l⟩ := h.all k (Nat.le_refl _)
    exact ⟨same_trans hc (nxt_same l (it_lt y hx k) s), hl⟩
theorem Along.alls {y x m : Nat} {ss : List Nat} (h : Along y x m ss) : Alls (pathW y x m) ss := by
  refine ⟨by rw [pathW_len, h.len], fun k hk => ?_⟩
  rw [pathW_len] at hk
  rw [pathW_get (by omega)]
  exact same_symm (h.all k (by omega)).1

/-- what spec.Path gives -/
def GivesPath (y x m : Nat) (w : World) (e : Ending) (w' : World) : Prop := ∃ ss A c, Along y x m ss ∧ e = .returned (.slice A (m + 1) c) ∧ Rd w' w'.heap.size A (fl ss) ∧ Below w.heap.size w w'

set_option maxHeartbeats 800000 in
theorem specPath_any (x y : Nat) (n : Int) (w : World) (hx : x < 2 ^ 64) :
    Calls Try.prog 20 #[.float .f64 x, .float .f64 y, .int .i64 n] w (GivesPath y x (n % 200).toNat w) := by
  obtain ⟨i0, hi, hz0, hz1, hz2⟩ := info_parts Try.infoF
  obtain ⟨m, hm⟩ : ∃ m : Nat, n % 200 = (m : Int) := ⟨(n % 200).toNat, by omega⟩
  have hM := Lib.hid hm
  have hm2 : m < 200 := by omega
  rw [show (n % 200).toNat = m by omega]
  clear hm
  go_enter Try.func20, Try.ntmps20
  go_wp2
  go_loopw [7, 8] (fun v i wr => ∃ (k : Nat) (ss : List Nat), k ≤ m ∧ i = .int .i64 (k : Int) ∧ Along y x k ss ∧ wr.ownsRow w.heap.size 22 1 v (fl ss).length (fl ss) ∧ Below w.heap.size w wr)
    (fun _ i _ => m - (intOf i).toNat)
  case atStart => exact ⟨0, [x], Nat.zero_le _, rfl, Along.start y x hx, World.ownsRow_lit w #[.float .f64 x] 1 (Nat.le_refl _) (by decide) rfl, (Below.refl _ _).alloc (Nat.le_refl _) _⟩
  case round =>
    obtain ⟨k, ss, hk, rfl, hA, hown, hbel⟩ := hrel
    have hsz := hbel.size
    obtain ⟨A, c, rfl, hc⟩ := own_slice hown
    have hL0 : (fl ss).length = k + 1 := by rw [fl_len, hA.len]
    have hr := Rd.of_own hown
    rw [hL0] at hown hc ⊢
    have hL := Lib.hid hL0
    clear hL0
    go_wp2_with fail
    refine (specAt_any _ _ _ (by decide) (by decide)).mono ?_
    rintro e w2 ⟨rfl, rfl⟩
    rw [hM.out]
    by_cases hlt : k < m
    · obtain ⟨ad, rfl, _, c1⟩ := hr.fl (k := k) (by rw [hA.len]; omega)
      have hN := Lib.hid (fun W : World => specNext_any (ss.getD k 0) y W (hA.all k (Nat.le_refl _)).2)
      have hst := Lib.hid (fun (c : Nat) (h1 : same c (nxt (ss.getD k 0) y) = true) (h2 : c < 2 ^ 64) => hA.step hx h1 h2)
      generalize ss.getD k 0 = p at *
      clear hr hA
      have hkk : k < k + 1 := by omega
      go_wp2_with fail
      ((with_reducible refine (hN.out _).mono ?_); rintro e w2 ⟨z, rfl, hz, hzl, hbz⟩)
      have hown2 := own_below hown hbz
      have hA2 := Lib.hid (hst.out z hz hzl)
      have hb2 : Below w.heap.size w w2 := hbel.trans (hbz.mono hsz)
      have hs2 := hbz.size
      have hlo := (hown2.lt _ rfl).1
      clear hown c1 hN hst hbz
      go_wp2_with (at_builtin; refine wpList_append_own _ rfl _ _ 23 rfl w.heap.size 22 i0 (.float .f64 0) 1 8 Try.underlying23 hi hz0 hz1 hz2 rfl (by decide) _ _ _ rfl (hown2.alloc _) ⟨w2.heap.size, 0, none⟩ 1 1 [.float .f64 z] rfl rfl (news_one _ _ _) ?c2 ?c3 ?c4 ?c5 ?_)
      case c2 => intro u hu; simp at hu; subst hu; rfl
      case c3 => unfold maxLen; omega
      case c4 => omega
      case c5 => simp; omega
      intro v' w3 hown' hgrow _
      have hown3 : Hid (w3.ownsRow w.heap.size 22 1 v' (fl (ss ++ [z])).length (fl (ss ++ [z]))) := by
        show w3.ownsRow _ _ _ _ _ _
        rw [fl_append, List.length_append, hL.out]; exact hown'
      have hbel2 : Below w.heap.size w w3 := (hb2.alloc hb2.size _).grown hgrow (by simp; have := hb2.size; omega) (fun g hg => (hown2.lt g hg).1)
      clear hown' hgrow hown2
      go_wp2
      go_roundw
      case rel => exact ⟨k + 1, ss ++ [z], by omega, by go_num, hA2.out, hown3.out, hbel2⟩
      case measure => simp [intOf]; omega
    · obtain rfl : k = m := by omega
      go_wp2
      go_ret
      exact ⟨ss, A, c, hA, rfl, hr, hbel⟩

set_option maxHeartbeats 800000 in
theorem walk (w : World) (x : Nat) (hx : x < 2 ^ 64) (y : Nat) (hy : y < 2 ^ 64) (n : Int) (_hn : -9223372036854775808 ≤ n ∧ n ≤ 9223372036854775807) :
    Calls Try.prog 5 #[.float .f64 x, .float .f64 y, .int .i64 n] w fun e w' => e = .returned (.bool true) ∧ Below w.heap.size w w' := by
  go_enter Try.func5, Try.ntmps5
  go_wp2_with fail
  refine (path_any _ _ _ _ hx hy).mono ?_
  have hm200 : (n % 200).toNat < 200 := by omega
  generalize hm : (n % 200).toNat = m at *
  have hM := Lib.hid hm
  clear hm
  rintro e w1 ⟨A, c, rfl, hc, hown, hbel⟩
  have hr := Rd.of_own hown
  rw [pathV_len]
  clear hown hc
  go_wp2_with fail
  refine (specPath_any _ _ _ _ hx).mono ?_
  rw [hM.out]
  rintro e w2 ⟨ss, A2, c2, hA, rfl, hr2, hbel2⟩
  have hr1 := hr.below hbel2
  clear hr
  go_wp2_with fail
  refine (sameAll_any (pathW y x m) ss _ _ _ _ _ _ _ _ (pathW_len _ _ m) hA.len (by omega) (hr1.more hbel2.size) hr2 hA.alls).mono ?_
  rintro e w4 ⟨rfl, hq⟩
  go_wp2
  go_ret
  exact ⟨rfl, (hbel.trans (hbel2.mono hbel.size)).trans (hq.below _)⟩
end Go.Proofs.Ytcgbghmeommmfaa.LPathIs
