/-
  Contract of impl.Nearest.
-/
import Derived.Test.YtmhdjhfkndfhmaaLibF
import Derived.Test.YtmhdjhfkndfhmaaChw
import Derived.Test.YtmhdjhfkndfhmaaImpA
namespace Go.Proofs.Ytmhdjhfkndfhmaa
open Go.RowKit Flt

/-- the chain of nearest remainders -/
def neaW (x y : Nat) : List Nat := x :: y :: chw remW 198 x y
theorem remW_w (a b : Nat) (h : a < 2 ^ 64) : remW a b < 2 ^ 64 := remW_lt h

set_option maxRecDepth 100000 in
set_option maxHeartbeats 1600000 in
theorem nearest_any (x y : Nat) (w : World) (hx : x < 2 ^ 64) (hy : y < 2 ^ 64) :
    Calls Try.prog 13 #[.float .f64 x, .float .f64 y] w (NewRow 22 w.heap.size w (fl (neaW x y))) := by
  obtain ⟨i0, hi, hz0, hz1, hz2⟩ := info_parts Try.infoF
  have hS0 := ChSt.start remW hx hy
  clear hx hy
  go_enter Try.func13, Try.ntmps13
  go_wp2
  go_loopw [0, 1, 5] (fun ca cb v wr => ∃ (done : List Nat) (a b : Nat), ca = .float .f64 a ∧ cb = .float .f64 b ∧ ChSt remW x y done a b ∧ wr.ownsRow w.heap.size 22 1 v (fl (x :: y :: done)).length (fl (x :: y :: done)) ∧ Below w.heap.size w wr)
    (fun _ _ v _ => 200 - (match v with | .slice _ n _ => n | _ => 0))
  case atStart => exact ⟨[], x, y, rfl, rfl, hS0, World.ownsRow_lit w #[.float .f64 x, .float .f64 y] 2 (Nat.le_refl _) (by decide) rfl, (Below.refl _ _).alloc (Nat.le_refl _) _⟩
  case round =>
    clear hS0
    obtain ⟨done, a, b, rfl, rfl, hS, hown, hbel⟩ := hrel
    have hsz := hbel.size
    obtain ⟨A1, c1, hv, hc1⟩ := own_slice hown
    have hL : (fl (x :: y :: done)).length = done.length + 2 := by rw [fl_len]; rfl
    rw [hL] at hv
    subst hv
    have hdl := hS.len
    have hfull := Lib.hid (fun h : done.length = 198 => hS.done_full h)
    have hstop := Lib.hid (fun h : stopw b = true => hS.done_stop h)
    have hstep := Lib.hid (fun (h : stopw b = false) (hl : done.length < 198) => hS.step remW_w h hl)
    have HM := Lib.hid (fun W : World => remainder_any a b W hS.a_lt hS.b_lt)
    have hL' := Lib.hid hL
    have hN := Lib.hid (NewRow.mk hown hbel)
    clear hS hL hc1
    generalize hm : done.length = m at *
    have hm' := Lib.hid hm
    clear hm
    rcases stop_cases b with ⟨h1, t1, t2⟩ | ⟨h1, t1⟩ | ⟨h1, t1, t2⟩
    · by_cases hlt : m < 198
      · have hS2 := Lib.hid (hstep.out h1 hlt)
        clear hstep hstop hfull h1 hN
        generalize remW a b = z at *
        go_wp2_with (first | (go_at_call 34; ((with_reducible refine (HM.out _).mono ?_)); rintro e w' ⟨rfl, rfl⟩) | (at_builtin; refine wpList_append_own _ rfl _ _ 23 rfl w.heap.size 22 i0 (.float .f64 0) 1 8 Try.underlying23 hi hz0 hz1 hz2 rfl (by decide) _ _ _ rfl (hown.alloc _) ⟨wr.heap.size, 0, none⟩ 1 1 [.float .f64 z] rfl rfl (news_one _ _ _) ?c2 ?c3 ?c4 ?c5 ?_))
        case c2 => intro u hu; simp at hu; subst hu; rfl
        case c3 => rw [hL'.out]; unfold maxLen; omega
        case c4 => rw [hL'.out]; omega
        case c5 => simp; omega
        intro v' w1 hown' hgrow _
        have hown2 : w1.ownsRow w.heap.size 22 1 v' (fl (x :: y :: (done ++ [z]))).length (fl (x :: y :: (done ++ [z]))) := by
          have e : fl (x :: y :: (done ++ [z])) = fl (x :: y :: done) ++ [.float .f64 z] := by
            rw [show x :: y :: (done ++ [z]) = (x :: y :: done) ++ [z] from rfl, fl_append]; rfl
          rw [e, List.length_append]; exact hown'
        have hbel2 : Below w.heap.size w w1 := (hbel.alloc hsz _).grown hgrow (by simp; omega) (fun g hg => (hown.lt g hg).1)
        obtain ⟨A2, c2, hv2, hc2⟩ := own_slice hown2
        have hl2 : (fl (x :: y :: (done ++ [z]))).length = m + 3 := by rw [fl_len]; simp [hm'.out]
        rw [hl2] at hv2
        subst hv2
        have ho2 := Lib.hid hown2
        clear hown' hgrow hown hbel hown2 hl2 hc2
        go_wp2
        go_roundw
        case rel => exact ⟨done ++ [z], b, z, rfl, rfl, hS2.out, ho2.out, hbel2⟩
        case measure => simp; omega
      · have e : m = 198 := by omega
        have hd := hfull.out e
        subst hd
        rw [e] at hN ⊢
        clear hstep hstop hfull e hm' hL' hown hlt
        go_wp2
        go_ret
        exact hN.out
    · have hd := hstop.out h1
      subst hd
      clear hstep hstop hfull hm' hL' hown h1
      go_wp2
      go_ret
      exact hN.out
    · have hd := hstop.out h1
      subst hd
      clear hstep hstop hfull hm' hL' hown h1
      go_wp2
      go_ret
      exact hN.out
end Go.Proofs.Ytmhdjhfkndfhmaa
