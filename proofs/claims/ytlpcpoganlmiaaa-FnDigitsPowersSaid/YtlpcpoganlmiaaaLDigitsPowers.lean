/-
  The walk of laws.FnDigitsPowers: it returns true, for every word x.
-/
import Derived.Test.YtlpcpoganlmiaaaDig
import Derived.Test.YtlpcpoganlmiaaaPow
import Derived.Test.YtlpcpoganlmiaaaDgp
import Derived.Test.YtlpcpoganlmiaaaSmi
import Derived.Test.YtlpcpoganlmiaaaSpcC
import Derived.Test.YtlpcpoganlmiaaaLawA
import Derived.Test.YtlpcpoganlmiaaaApr
namespace Go.Proofs.Ytlpcpoganlmiaaa.LDigitsPowers
open Go.RowKit Flt

/-- the places of numbers that are not 0 -/
def pl (l : List Int) (k : Nat) : List Int := ((List.range k).filter fun i => decide (l.getD i 0 ≠ 0)).map fun (i : Nat) => -(i : Int) - 1
theorem pl_yes {l : List Int} {k : Nat} (h : l.getD k 0 ≠ 0) : pl l (k + 1) = pl l k ++ [-(k : Int) - 1] := by
  unfold pl
  rw [List.range_succ, List.filter_append, List.map_append, List.filter_cons, if_pos (by exact decide_eq_true h)]; rfl
theorem pl_no {l : List Int} {k : Nat} (h : l.getD k 0 = 0) : pl l (k + 1) = pl l k := by
  unfold pl
  rw [List.range_succ, List.filter_append, List.map_append, List.filter_cons, if_neg (by rw [h]; decide)]
  exact List.append_nil _
theorem pl_len (l : List Int) (k : Nat) : (pl l k).length ≤ k := by
  unfold pl; rw [List.length_map]
  exact Nat.le_trans (List.length_filter_le _ _) (by simp)
/-- the negative numbers -/
def pn (l : List Int) : List Int := l.filter fun e => decide (e < 0)
theorem pn_yes {l : List Int} {k : Nat} (hk : k < l.length) (h : l.getD k 0 < 0) : pn (l.take (k + 1)) = pn (l.take k) ++ [l.getD k 0] := by
  unfold pn; rw [take_snoc l k 0 hk, List.filter_append]
  congr 1
  rw [List.filter_cons, if_pos (by simpa using h)]; rfl
theorem pn_no {l : List Int} {k : Nat} (hk : k < l.length) (h : ¬ l.getD k 0 < 0) : pn (l.take (k + 1)) = pn (l.take k) := by
  unfold pn; rw [take_snoc l k 0 hk, List.filter_append]
  rw [List.filter_cons, if_neg (by simpa using h)]
  simp
theorem pn_len (l : List Int) : (pn l).length ≤ l.length := List.length_filter_le _ _

theorem sdg_ne (s : Bool) (n i : Nat) : sdg s n i ≠ 0 ↔ dg n i = 1 := by
  have := dg_lt n i
  unfold sdg
  cases s <;> simp <;> omega
theorem pl_dig (s : Bool) (n K : Nat) : pl (digL s n K) K = (plN n K).map fun (i : Nat) => -(i : Int) - 1 := by
  unfold pl plN
  congr 1
  apply List.filter_congr
  intro i hi
  rw [digL_get (List.mem_range.1 hi), decide_eq_decide]
  exact sdg_ne s n (i + 1)
theorem plN_neg (n d : Nat) : (plN n (e0 + d)).map (fun (i : Nat) => -(i : Int) - 1) = (dsc n e0).map fun (j : Nat) => (j : Int) - e0 := by
  rw [← plN_full n d, List.map_map]
  apply List.map_congr_left
  intro i hi
  have := plN_lt hi
  show -(i : Int) - 1 = ((e0 - 1 - i : Nat) : Int) - e0
  omega
theorem pn_low {n : Nat} (hn : n < TOP) : pn (pwI (pws n)) = (dsc n e0).map fun (j : Nat) => (j : Int) - e0 := by
  have he := e0_eq
  rw [← pws_low hn]
  have e : ((fun (j : Nat) => (j : Int) - 1074)) = fun (j : Nat) => (j : Int) - (e0 : Nat) := by funext j; omega
  unfold pn pwI
  rw [e, List.filter_map]
  congr 1
  apply List.filter_congr
  intro j _
  show decide ((j : Int) - (e0 : Nat) < 0) = decide (j < e0)
  rw [decide_eq_decide]; omega
theorem law_fin {x : Nat} (h : rg x < INF) : pl (digW x 1100) 1100 = pn (pwW x) := by
  have he := e0_eq
  obtain ⟨K, hK⟩ : ∃ K, K = 1100 := ⟨_, rfl⟩
  have e : digW x 1100 = digL (sg x) (rv (rg x)) K := by unfold digW; rw [if_pos h, hK]; rfl
  have e2 : pwW x = pwI (pws (rv (rg x))) := by unfold pwW; rw [if_pos h]
  rw [e, e2, ← hK, pl_dig, show K = e0 + 26 by omega, plN_neg, pn_low (rv_lt_TOP h)]
theorem digW_len' {x : Nat} (h : rg x < INF) : (digW x 1100).length = 1100 := by
  unfold digW; rw [if_pos h, digL_len]; rfl
theorem inf_nil {x : Nat} (h : ¬ rg x < INF) : digW x 1100 = [] ∧ pwW x = [] := by
  unfold digW pwW; rw [if_neg h, if_neg h]; exact ⟨rfl, rfl⟩
theorem law (x : Nat) : pl (digW x 1100) (digW x 1100).length = pn (pwW x) := by
  by_cases h : rg x < INF
  · rw [digW_len' h]; exact law_fin h
  · obtain ⟨h1, h2⟩ := inf_nil h
    rw [h1, h2]; rfl
theorem len_le (x : Nat) : (digW x 1100).length ≤ 1100 := by
  by_cases h : rg x < INF
  · rw [digW_len' h]; exact Nat.le_refl _
  · rw [(inf_nil h).1]; exact Nat.zero_le _

set_option maxRecDepth 100000 in
set_option maxHeartbeats 3200000 in
theorem walk (w : World) (x : Nat) (hx : x < 2 ^ 64) :
    Calls Try.prog 13 #[.float .f64 x] w fun e' w' => e' = .returned (.bool true) ∧ Below w.heap.size w w' := by
  obtain ⟨i0, hi, hz0, hz1, hz2⟩ := info_parts Try.infoI
  have HD := Lib.hid (fun W : World => digits_any x 1100 W hx)
  have HP := Lib.hid (fun W : World => powers_any x W hx)
  have hlaw := Lib.hid (law x)
  have hl1 := len_le x
  have hl2 := pwW_len (x := x)
  have HF : Hid ((rg x < INF ∧ (digW x 1100).length = 1100) ∨ ¬ rg x < INF) := by
    by_cases h : rg x < INF
    · exact Or.inl ⟨h, digW_len' h⟩
    · exact Or.inr h
  obtain ⟨l, hl⟩ : ∃ l, digW x 1100 = l := ⟨_, rfl⟩
  rw [hl] at HD hlaw hl1 HF
  obtain ⟨p, hp⟩ : ∃ p, pwW x = p := ⟨_, rfl⟩
  rw [hp] at HP hlaw hl2
  obtain ⟨N, hN⟩ : ∃ N, l.length = N := ⟨_, rfl⟩
  obtain ⟨M, hM⟩ : ∃ M, p.length = M := ⟨_, rfl⟩
  rw [hN] at hlaw hl1 HF
  rw [hM] at hl2
  have HN := Lib.hid hN
  have HM := Lib.hid hM
  have HLl : Hid ((il l).length = N) := by show _ = _; rw [il_len, hN]
  have HLp : Hid ((il p).length = M) := by show _ = _; rw [il_len, hM]
  clear hN hM hl hp hx
  go_enter Try.func13, Try.ntmps13
  go_wp2_with fail
  ((with_reducible refine (HD.out _).mono ?_); rintro e' w1 ⟨A, c, rfl, _, hownD, hbelD⟩)
  rw [HLl.out] at hownD ⊢
  have hrD : Rd w1 w1.heap.size A (il l) := by rw [← HLl.out] at hownD; exact Rd.of_own hownD
  have hown0 := own_below (World.ownsRow_lit (e := 3) (size := 1) w #[] 0 (Nat.le_refl _) (by decide) rfl) hbelD
  have hbel0 := ((Below.refl w.heap.size w).alloc (Nat.le_refl _) _).trans (hbelD.mono (by simp))
  have hap0 := Apr.lit (g := w.heap.size) hownD (by simp)
  clear hownD hbelD
  go_wp2_with fail
  go_loopw [3, 4, 5, 13] (fun o _ _ i wr => ∃ k : Nat, k ≤ N ∧ i = .int .i64 (k : Int) ∧ wr.ownsRow w.heap.size 3 1 o (il (pl l k)).length (il (pl l k)) ∧ Apr w1.heap.size A o ∧ Rd wr w1.heap.size A (il l) ∧ w1.heap.size ≤ wr.heap.size ∧ Below w.heap.size w wr) (fun _ _ _ i _ => N - (intOf i).toNat)
  case atStart => exact ⟨0, Nat.zero_le _, rfl, hown0, hap0, hrD, Nat.le_refl _, hbel0⟩
  case round =>
    clear hown0 hap0 hrD hbel0
    obtain ⟨k, hk, rfl, hown, hap, hrD, hs1, hbel⟩ := hrel
    have hsz := hbel.size
    by_cases hlt : k < N
    · obtain ⟨ad, e1, _, c1⟩ := hrD.il (k := k) (by rw [HN.out]; exact hlt)
      cases e1
      have hLn : Hid ((il (pl l k)).length ≤ k) := by show _ ≤ _; rw [il_len]; exact pl_len l k
      by_cases hd : l.getD k 0 = 0
      · have hno := Lib.hid (pl_no hd)
        rw [hd] at c1
        rw [← hno.out] at hown
        clear hno hd
        go_wp2
        go_roundw
        case rel => exact ⟨k + 1, by omega, by go_num, hown, hap, hrD, hs1, hbel⟩
        case measure => simp [intOf]; omega
      · have hys := Lib.hid (pl_yes hd)
        generalize l.getD k 0 = dv at *
        have hl' := hLn.out
        go_wp2_with (at_builtin; refine wpList_append_own_at _ rfl _ _ 33 rfl w.heap.size 3 i0 (.int .i64 0) 1 8 Try.underlying33 hi hz0 hz1 hz2 rfl (by decide) _ _ _ rfl (hown.alloc _) ⟨wr.heap.size, 0, none⟩ 1 1 [.int .i64 (-(k : Int) - 1)] rfl rfl (news_one _ _ _) ?c2 ?c3 ?c4 ?c5 ?_)
        case c2 => intro u hu; simp at hu; subst hu; rfl
        case c3 => unfold maxLen; omega
        case c4 => omega
        case c5 => simp; omega
        intro v' w2 hown' hgrow _ hob'
        have hown2 : Hid (w2.ownsRow w.heap.size 3 1 v' (il (pl l (k + 1))).length (il (pl l (k + 1)))) := by
          show w2.ownsRow _ _ _ _ _ _
          rw [hys.out, il_append, List.length_append]; exact hown'
        have hbel2 : Below w.heap.size w w2 := (hbel.alloc hsz _).grown hgrow (by simp; omega) (fun g hg => (hown.lt g hg).1)
        have hrD2 : Rd w2 w1.heap.size (some ad) (il l) := (hrD.alloc hs1 _).grown hap hgrow
        have hap2 := hap.step (n := wr.heap.size + 1) (by omega) hob'
        have hs2 : w1.heap.size ≤ w2.heap.size := by have := hgrow.size; simp at this; omega
        clear hown' hgrow hown hbel hrD hap hob' hs1 c1
        go_wp2
        go_roundw
        case rel => exact ⟨k + 1, by omega, by go_num, hown2.out, hap2, hrD2, hs2, hbel2⟩
        case measure => simp [intOf]; omega
    · have hkN : k = N := by omega
      rw [hkN, hlaw.out] at hown
      clear hkN
      have hpl : (il (pn p)).length = (pn p).length := il_len _
      have hpnl := pn_len p
      rw [HM.out] at hpnl
      rw [hpl] at hown
      obtain ⟨q, hq⟩ : ∃ q, (pn p).length = q := ⟨_, rfl⟩
      rw [hq] at hown hpnl
      obtain ⟨A3, c3, hv3⟩ : ∃ A3 c3, u3 = .slice A3 q c3 := by
        rcases hown.2 with ⟨hv, h0⟩ | ⟨g, cap, cur, hv, _⟩
        · exact ⟨none, 0, by rw [hv, h0]⟩
        · exact ⟨_, _, hv⟩
      subst hv3
      have hLq : Hid ((il (pn p)).length = q) := by show _ = _; rw [hpl, hq]
      have r3 : Rd wr wr.heap.size A3 (il (pn p)) := by rw [← hLq.out] at hown; exact Rd.of_own hown
      have hQ := Lib.hid hq
      have HB := Lib.hid hbel
      clear hown hap hrD hs1 hpl hq hlaw hbel
      go_wp2_with fail
      ((with_reducible refine (HP.out _).mono ?_); rintro e' w2 ⟨A2, c2, rfl, _, hownP, hbelP⟩)
      rw [HLp.out] at hownP ⊢
      have hrP : Rd w2 w2.heap.size A2 (il p) := by rw [← HLp.out] at hownP; exact Rd.of_own hownP
      have hown0 := own_below (World.ownsRow_lit (e := 3) (size := 1) wr #[] 0 (Nat.le_refl _) (by decide) rfl) hbelP
      have hbel0 := ((Below.refl wr.heap.size wr).alloc (Nat.le_refl _) _).trans (hbelP.mono (by simp))
      have hap0 := Apr.lit (g := wr.heap.size) hownP (by simp)
      clear hownP hbelP HP
      obtain ⟨W, rfl⟩ : ∃ W, W = wr := ⟨_, rfl⟩
      go_wp2_with fail
      go_loopw [6, 8, 31] (fun o _ i wr => ∃ k : Nat, k ≤ M ∧ i = .int .i64 (k : Int) ∧ wr.ownsRow W.heap.size 3 1 o (il (pn (p.take k))).length (il (pn (p.take k))) ∧ Apr w2.heap.size A2 o ∧ Rd wr w2.heap.size A2 (il p) ∧ w2.heap.size ≤ wr.heap.size ∧ Below W.heap.size W wr) (fun _ _ i _ => M - (intOf i).toNat)
      case atStart => exact ⟨0, Nat.zero_le _, rfl, hown0, hap0, hrP, Nat.le_refl _, hbel0⟩
      case round =>
        clear hown0 hap0 hrP hbel0
        obtain ⟨k, hk, rfl, hown, hap, hrP, hs1, hbel⟩ := hrel
        have hsz := hbel.size
        by_cases hlt : k < M
        · obtain ⟨ad, e1, _, c1⟩ := hrP.il (k := k) (by rw [HM.out]; exact hlt)
          cases e1
          have hLn : (il (pn (p.take k))).length ≤ k := by
            rw [il_len]
            refine Nat.le_trans (pn_len _) ?_
            rw [List.length_take]; omega
          by_cases hd : p.getD k 0 < 0
          · have hys := Lib.hid (pn_yes (by rw [HM.out]; exact hlt) hd)
            generalize p.getD k 0 = dv at *
            go_wp2_with (at_builtin; refine wpList_append_own_at _ rfl _ _ 33 rfl W.heap.size 3 i0 (.int .i64 0) 1 8 Try.underlying33 hi hz0 hz1 hz2 rfl (by decide) _ _ _ rfl (hown.alloc _) ⟨wr.heap.size, 0, none⟩ 1 1 [.int .i64 dv] rfl rfl (news_one _ _ _) ?c2 ?c3 ?c4 ?c5 ?_)
            case c2 => intro u hu; simp at hu; subst hu; rfl
            case c3 => unfold maxLen; omega
            case c4 => omega
            case c5 => simp; omega
            intro v' w3 hown' hgrow _ hob'
            have hown2 : Hid (w3.ownsRow W.heap.size 3 1 v' (il (pn (p.take (k + 1)))).length (il (pn (p.take (k + 1))))) := by
              show w3.ownsRow _ _ _ _ _ _
              rw [hys.out, il_append, List.length_append]; exact hown'
            have hbel2 : Below W.heap.size W w3 := (hbel.alloc hsz _).grown hgrow (by simp; omega) (fun g hg => (hown.lt g hg).1)
            have hrP2 : Rd w3 w2.heap.size (some ad) (il p) := (hrP.alloc hs1 _).grown hap hgrow
            have hap2 := hap.step (n := wr.heap.size + 1) (by omega) hob'
            have hs2 : w2.heap.size ≤ w3.heap.size := by have := hgrow.size; simp at this; omega
            clear hown' hgrow hown hbel hrP hap hob' hs1 c1
            go_wp2
            go_roundw
            case rel => exact ⟨k + 1, by omega, by go_num, hown2.out, hap2, hrP2, hs2, hbel2⟩
            case measure => simp [intOf]; omega
          · have hno := Lib.hid (pn_no (by rw [HM.out]; exact hlt) hd)
            rw [← hno.out] at hown
            generalize p.getD k 0 = dv at *
            clear hno
            go_wp2
            go_roundw
            case rel => exact ⟨k + 1, by omega, by go_num, hown, hap, hrP, hs1, hbel⟩
            case measure => simp [intOf]; omega
        · have hkm : p.take k = p := List.take_of_length_le (by rw [HM.out]; omega)
          rw [hkm, hLq.out] at hown
          obtain ⟨A4, c4, hv4⟩ : ∃ A4 c4, u6 = .slice A4 q c4 := by
            rcases hown.2 with ⟨hv, h0⟩ | ⟨g, cap, cur, hv, _⟩
            · exact ⟨none, 0, by rw [hv, h0]⟩
            · exact ⟨_, _, hv⟩
          subst hv4
          have r4 : Rd wr wr.heap.size A4 (il (pn p)) := by rw [← hLq.out] at hown; exact Rd.of_own hown
          have r3' : Rd wr wr.heap.size A3 (il (pn p)) := (r3.below hbel).more hsz
          have HS := Lib.hid (sameInts_any (pn p) A3 A4 c3 c4 q q wr.heap.size wr hQ.out hQ.out (by omega) r3' r4)
          have HB2 := Lib.hid (HB.out.trans (hbel.mono HB.out.size))
          clear hown hap hrP r4 r3' r3 hkm hbel HB hs1
          go_wp2_with fail
          ((with_reducible refine (HS.out).mono ?_); rintro e' w5 ⟨rfl, q5⟩)
          have HB5 := Lib.hid (HB2.out.trans (q5.below _))
          clear HS HB2 q5
          rcases HF.out with ⟨hf, hN1⟩ | hf
          · have HFi := Lib.hid (fun W : World => specFinite_yes x W hf)
            subst hN1
            clear hf HF
            go_wp2_with fail
            ((with_reducible refine (HFi.out _).mono ?_); rintro e' w6 ⟨rfl, rfl⟩)
            go_wp2_with fail
            ((with_reducible refine (HD.out _).mono ?_); rintro e' w7 ⟨A7, c7, rfl, _, _, b7⟩)
            rw [HLl.out]
            go_wp2
            go_ret
            exact ⟨rfl, HB5.out.trans (b7.mono HB5.out.size)⟩
          · have HFi := Lib.hid (fun W : World => specFinite_no x W (by omega))
            clear hf HF
            go_wp2_with fail
            ((with_reducible refine (HFi.out _).mono ?_); rintro e' w6 ⟨rfl, q6⟩)
            go_wp2
            go_ret
            exact ⟨rfl, HB5.out.trans (q6.below _)⟩
end Go.Proofs.Ytlpcpoganlmiaaa.LDigitsPowers
