/-
  Contracts of the reference: chain, Euclid, Nearest, on values.
-/
import Derived.Test.YtmhdjhfkndfhmaaSpR
import Derived.Test.YtmhdjhfkndfhmaaChw
import Derived.Test.YtmhdjhfkndfhmaaImpA
namespace Go.Proofs.Ytmhdjhfkndfhmaa
open Go.RowKit Flt

/-- which remainder -/
def rmf (nb : Bool) : Val → Val → Val := if nb then remv else modv
/-- where the reference's chain has come to -/
structure ChV (f : Val → Val → Val) (x y : Nat) (L : List Nat) (a b : Nat) : Prop where
  all : L.map vl ++ chn f (200 - L.length) (vl a) (vl b) = vl x :: vl y :: chn f 198 (vl x) (vl y)
  words : ∀ z ∈ L, z < 2 ^ 64
  len : 2 ≤ L.length ∧ L.length ≤ 200
  ga : L.getD (L.length - 2) 0 = a
  gb : L.getD (L.length - 1) 0 = b

theorem two_words {x y : Nat} (hx : x < 2 ^ 64) (hy : y < 2 ^ 64) : ∀ z ∈ [x, y], z < 2 ^ 64 := by
  intro z hz
  rcases List.mem_cons.1 hz with rfl | hz
  · exact hx
  · rcases List.mem_cons.1 hz with rfl | hz
    · exact hy
    · cases hz
theorem ChV.start (f : Val → Val → Val) {x y : Nat} (hx : x < 2 ^ 64) (hy : y < 2 ^ 64) : ChV f x y [x, y] x y :=
  ⟨rfl, two_words hx hy, ⟨by simp, by simp⟩, rfl, rfl⟩
theorem getD_snoc (L : List Nat) (z : Nat) : (L ++ [z]).getD L.length 0 = z := by
  rw [List.getD_eq_getElem?_getD, List.getElem?_append_right (Nat.le_refl _), Nat.sub_self]; rfl
theorem getD_left {L : List Nat} {k : Nat} (z : Nat) (h : k < L.length) : (L ++ [z]).getD k 0 = L.getD k 0 := by
  rw [List.getD_eq_getElem?_getD, List.getElem?_append_left h, ← List.getD_eq_getElem?_getD]
theorem ChV.step {f : Val → Val → Val} {x y : Nat} {L : List Nat} {a b z : Nat} (h : ChV f x y L a b) (hs : stopv (vl b) = false) (hl : L.length < 200) (hz : z < 2 ^ 64) (hv : vl z = f (vl a) (vl b)) : ChV f x y (L ++ [z]) b z := by
  have hlen := h.len
  refine ⟨?_, fun u hu => ?_, ⟨by simp; omega, by simp; omega⟩, ?_, ?_⟩
  · have := h.all
    obtain ⟨k, hk⟩ : ∃ k, 200 - L.length = k + 1 := ⟨199 - L.length, by omega⟩
    have hc : chn f (k + 1) (vl a) (vl b) = f (vl a) (vl b) :: chn f k (vl b) (f (vl a) (vl b)) := by
      show (if stopv (vl b) then [] else _) = _
      rw [hs]; rfl
    rw [hk, hc] at this
    rw [List.map_append, List.length_append, List.length_singleton, show 200 - (L.length + 1) = k by omega, List.append_assoc, hv]
    show L.map vl ++ ([vl z] ++ _) = _
    rw [hv]
    exact this
  · rcases List.mem_append.1 hu with hu | hu
    · exact h.words u hu
    · simp at hu; rw [hu]; exact hz
  · rw [List.length_append, List.length_singleton, show L.length + 1 - 2 = L.length - 1 by omega, getD_left z (by omega)]; exact h.gb
  · rw [List.length_append, List.length_singleton, show L.length + 1 - 1 = L.length by omega]; exact getD_snoc L z
theorem ChV.done {f : Val → Val → Val} {x y : Nat} {L : List Nat} {a b : Nat} (h : ChV f x y L a b) (hs : stopv (vl b) = true ∨ L.length = 200) : L.map vl = vl x :: vl y :: chn f 198 (vl x) (vl y) := by
  have := h.all
  have e : chn f (200 - L.length) (vl a) (vl b) = [] := by
    rcases hs with hs | hs
    · cases 200 - L.length with
      | zero => rfl
      | succ k => show (if stopv (vl b) then [] else _) = _; rw [hs]; rfl
    · rw [hs]; rfl
  rw [e, List.append_nil] at this
  exact this

/-- a new row of words of these values -/
def RowVals (V : List Val) (w : World) (e : Ending) (w' : World) : Prop := ∃ L : List Nat, L.map vl = V ∧ (∀ z ∈ L, z < 2 ^ 64) ∧ NewRow 22 w.heap.size w (fl L) e w'

set_option maxRecDepth 100000 in
set_option maxHeartbeats 3200000 in
theorem chain_any (x y : Nat) (nb : Bool) (w : World) (hx : x < 2 ^ 64) (hy : y < 2 ^ 64) :
    Calls Try.prog 36 #[.float .f64 x, .float .f64 y, .bool nb] w (RowVals (vl x :: vl y :: chn (rmf nb) 198 (vl x) (vl y)) w) := by
  obtain ⟨i0, hi, hz0, hz1, hz2⟩ := info_parts Try.infoF
  have hS0 := ChV.start (rmf nb) hx hy
  clear hx hy
  go_enter Try.func36, Try.ntmps36
  go_wp2
  go_loopw [7] (fun v wr => ∃ (L : List Nat) (a b : Nat), ChV (rmf nb) x y L a b ∧ wr.ownsRow w.heap.size 22 1 v (fl L).length (fl L) ∧ Below w.heap.size w wr)
    (fun v _ => 200 - (match v with | .slice _ n _ => n | _ => 0))
  case atStart => exact ⟨[x, y], x, y, hS0, World.ownsRow_lit w #[.float .f64 x, .float .f64 y] 2 (Nat.le_refl _) (by decide) rfl, (Below.refl _ _).alloc (Nat.le_refl _) _⟩
  case round =>
    clear hS0
    obtain ⟨L, a, b, hS, hown, hbel⟩ := hrel
    have hsz := hbel.size
    obtain ⟨A1, c1, hv, hc1⟩ := own_slice hown
    have hr := Rd.of_own (A := A1) (c := c1) (by rw [← hv]; exact hown)
    have hL : (fl L).length = L.length := fl_len L
    rw [hL] at hv
    subst hv
    obtain ⟨hl2, hl200⟩ := hS.len
    have hfull := Lib.hid (fun h : L.length = 200 => hS.done (Or.inr h))
    have hstop := Lib.hid (fun h : stopv (vl b) = true => hS.done (Or.inl h))
    have hstep := Lib.hid (fun (z : Nat) (h : stopv (vl b) = false) (hl : L.length < 200) (hz : z < 2 ^ 64) (hv : vl z = rmf nb (vl a) (vl b)) => hS.step h hl hz hv)
    have hwords := Lib.hid hS.words
    have ea := hS.ga
    have eb := hS.gb
    have hL' := Lib.hid hL
    have hN := Lib.hid (NewRow.mk hown hbel)
    have al : a < 2 ^ 64 := by rw [← ea]; exact hS.words _ (getD_mem L _ 0 (by omega))
    have bll : b < 2 ^ 64 := by rw [← eb]; exact hS.words _ (getD_mem L _ 0 (by omega))
    obtain ⟨ad, e1, _, ca⟩ := hr.fl (k := L.length - 2) (by omega)
    obtain ⟨ad', e2, _, cb⟩ := hr.fl (k := L.length - 1) (by omega)
    rw [ea] at ca
    rw [eb] at cb
    cases e1; cases e2
    clear hS hL hr ea eb
    generalize hm : L.length = m at *
    have HM := Lib.hid hm
    clear hm
    by_cases hlt : m < 200
    · obtain ⟨p, hp⟩ : ∃ p, p + 2 = m := ⟨m - 2, by omega⟩
      rw [show m - 2 = p by omega] at ca
      obtain ⟨q, hq⟩ : ∃ q, p + 1 = q := ⟨_, rfl⟩
      rw [show m - 1 = q by omega] at cb
      have hw1 : IntKind.i64.wrap ((m : Int) - 2) = (p : Int) := by rw [IntWalk.i64_in _ (by omega)]; omega
      have hw2 : IntKind.i64.wrap ((m : Int) - 1) = (q : Int) := by rw [IntWalk.i64_in _ (by omega)]; omega
      have hpm : p < m := by have h1 := hp; clear hw1 hw2; omega
      have hpm1 : q < m := by clear hw1 hw2; omega
      have hp' := Lib.hid hp
      have hq' := Lib.hid hq
      clear hp hq
      have hsv := stopw_vl b
      have hsc := stop_cases b
      have hne : ∀ c : Bool, (FloatKind.f64.format.order b 0 != some .eq) = c → (FloatKind.f64.format.order b 0 == some .eq) = !c := by
        intro c h
        rw [← h]
        show _ = !(!(FloatKind.f64.format.order b 0 == some .eq))
        rw [Bool.not_not]
      have hne2 : ∀ c : Bool, (FloatKind.f64.format.order b b == some .eq) = c → (FloatKind.f64.format.order b b != some .eq) = !c := by
        intro c h
        show (!(FloatKind.f64.format.order b b == some .eq)) = !c
        rw [h]
      have hcs : (stopv (vl b) = false ∧ (FloatKind.f64.format.order b 0 == some .eq) = false ∧ (FloatKind.f64.format.order b b != some .eq) = false) ∨ (stopv (vl b) = true ∧ (FloatKind.f64.format.order b 0 == some .eq) = true) ∨ (stopv (vl b) = true ∧ (FloatKind.f64.format.order b 0 == some .eq) = false ∧ (FloatKind.f64.format.order b b != some .eq) = true) := by
        rw [← hsv]
        rcases hsc with ⟨h1, t1, t2⟩ | ⟨h1, t1⟩ | ⟨h1, t1, t2⟩
        · exact Or.inl ⟨h1, hne _ t1, hne2 _ t2⟩
        · exact Or.inr (Or.inl ⟨h1, hne _ t1⟩)
        · exact Or.inr (Or.inr ⟨h1, hne _ t1, hne2 _ t2⟩)
      clear hsv hsc hne hne2
      rcases hcs with ⟨h1, t1, t2⟩ | ⟨h1, t1⟩ | ⟨h1, t1, t2⟩
      · have hst := Lib.hid (fun (z : Nat) => hstep.out z h1 hlt)
        have HMd := Lib.hid (fun W : World => specMod_any a b W al bll)
        have HRm := Lib.hid (fun W : World => specRem_any a b W al bll)
        clear hstep hstop hfull h1 hN al bll
        cases nb
        all_goals
          go_wp2
          go_quiet (fail)
          clear hw1 hw2
          go_wp2_with (first | (go_at_call 45; ((with_reducible refine (HMd.out _).mono ?_)); rintro e w2 ⟨z, rfl, vz, lz, bz⟩; have VZ := Lib.hid vz; clear vz; have ho2 := own_below (Qt.own (Qt.drewN (Qt.refl wr) _) hown) bz) | (go_at_call 44; ((with_reducible refine (HRm.out _).mono ?_)); rintro e w2 ⟨z, rfl, vz, lz, bz⟩; have VZ := Lib.hid vz; clear vz; have ho2 := own_below (Qt.own (Qt.drewN (Qt.refl wr) _) hown) bz) | (at_builtin; refine wpList_append_own _ rfl _ _ 23 rfl w.heap.size 22 i0 (.float .f64 0) 1 8 Try.underlying23 hi hz0 hz1 hz2 rfl (by decide) _ _ _ rfl (ho2.alloc _) ⟨w2.heap.size, 0, none⟩ 1 1 [.float .f64 z] rfl rfl (news_one _ _ _) ?c2 ?c3 ?c4 ?c5 ?_))
          case c2 => intro u hu; simp at hu; subst hu; rfl
          case c3 => rw [hL'.out]; unfold maxLen; omega
          case c4 => rw [hL'.out]; omega
          case c5 => have := bz.size; simp at this ⊢; omega
          intro v' w3 hown' hgrow _
          have hbel2 : Below w.heap.size w w2 := (hbel.trans ((Qt.drewN (Qt.refl wr) _).below _)).trans (bz.mono hsz)
          have hbel3 : Below w.heap.size w w3 := (hbel2.alloc hbel2.size _).grown hgrow (by have := hbel2.size; simp; omega) (fun g hg => (ho2.lt g hg).1)
          have hown2 : w3.ownsRow w.heap.size 22 1 v' (fl (L ++ [z])).length (fl (L ++ [z])) := by
            rw [fl_append, List.length_append]; exact hown'
          obtain ⟨A2, c2, hv2, hc2⟩ := own_slice hown2
          have hl2 : (fl (L ++ [z])).length = m + 1 := by rw [fl_len]; simp [HM.out]
          rw [hl2] at hv2
          subst hv2
          have HO2 := Lib.hid hown2
          have HST := Lib.hid (hst.out z lz VZ.out)
          clear hown' hgrow hown hbel hown2 hl2 hc2 ho2 hbel2
          go_wp2
          go_roundw
          case rel => exact ⟨L ++ [z], b, z, HST.out, HO2.out, hbel3⟩
          case measure => simp; omega
      · have hd := Lib.hid (hstop.out h1)
        clear hstep hstop hfull h1
        go_wp2
        go_quiet (fail)
        clear hw1 hw2
        go_wp2
        go_ret
        exact ⟨L, hd.out, hwords.out, NewRow.mk (Qt.own (Qt.drewN (Qt.refl _) _) hown) (hbel.trans ((Qt.drewN (Qt.refl _) _).below _))⟩
      · have hd := Lib.hid (hstop.out h1)
        clear hstep hstop hfull h1
        go_wp2
        go_quiet (fail)
        clear hw1 hw2
        go_wp2
        go_ret
        exact ⟨L, hd.out, hwords.out, NewRow.mk (Qt.own (Qt.drewN (Qt.refl _) _) hown) (hbel.trans ((Qt.drewN (Qt.refl _) _).below _))⟩
    · have e : m = 200 := by omega
      have hd := Lib.hid (hfull.out e)
      rw [e] at hN ⊢
      clear hstep hstop hfull e hlt hown ca cb
      go_wp2
      go_ret
      exact ⟨L, hd.out, hwords.out, hN.out⟩
end Go.Proofs.Ytmhdjhfkndfhmaa
