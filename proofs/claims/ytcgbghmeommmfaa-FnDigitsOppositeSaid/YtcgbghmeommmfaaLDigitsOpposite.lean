/-
  The walk of laws.FnDigitsOpposite: it returns true, for every word x and every n.
-/
import Derived.Test.YtcgbghmeommmfaaDig
import Derived.Test.YtcgbghmeommmfaaSmi
import Derived.Test.YtcgbghmeommmfaaSpcC
import Derived.Test.YtcgbghmeommmfaaLawA
namespace Go.Proofs.Ytcgbghmeommmfaa.LDigitsOpposite
open Go.RowKit Flt

theorem neg_run' (b : Nat) (w : World) : (Op.unary .neg (.float .f64 b)).run Try.prog w = .ok (.float .f64 (Op.negFloat .f64 b)) w := rfl

/-- the first k numbers made opposite -/
def negTo (l : List Int) (k : Nat) : List Int := (l.take k).map (fun a => -a) ++ l.drop k
theorem negTo_len (l : List Int) (k : Nat) : (negTo l k).length = l.length := by
  unfold negTo; simp; omega
theorem negTo_zero (l : List Int) : negTo l 0 = l := by simp [negTo]
theorem negTo_get {l : List Int} {k : Nat} (h : k < l.length) : (negTo l k).getD k 0 = l.getD k 0 := by
  unfold negTo
  rw [List.getD_eq_getElem?_getD, List.getElem?_append_right (by simp; omega), List.getD_eq_getElem?_getD, List.getElem?_drop]
  congr 2
  simp; omega
theorem negTo_succ {l : List Int} {k : Nat} (h : k < l.length) : (negTo l k).set k (-(l.getD k 0)) = negTo l (k + 1) := by
  unfold negTo
  rw [take_snoc l k 0 h, List.map_append, List.set_append_right _ _ (by simp; omega)]
  have : l.drop k = l.getD k 0 :: l.drop (k + 1) := by
    rw [List.drop_eq_getElem_cons h, List.getD_eq_getElem?_getD, List.getElem?_eq_getElem h]; rfl
  rw [this]
  simp [Nat.min_eq_left (Nat.le_of_lt h)]
theorem negTo_all (l : List Int) : negTo l l.length = l.map (fun a => -a) := by
  unfold negTo; simp

theorem il_set (l : List Int) (k : Nat) (a : Int) : (il l).set k (.int .i64 a) = il (l.set k a) := by
  unfold il; rw [List.map_set]

theorem digW_neg {x : Nat} (hx : x < 2 ^ 64) (n : Int) : digW (Op.negFloat .f64 x) n = (digW x n).map (fun a => -a) := by
  unfold digW
  rw [rg_neg x hx, sg_neg x hx]
  split
  · unfold digL
    rw [List.map_map]
    apply List.map_congr_left
    intro i _
    show sdg _ _ _ = -sdg _ _ _
    unfold sdg
    cases sg x <;> simp
  · rfl

theorem digW_len (x : Nat) (n : Int) : (digW x n).length ≤ 1200 := by
  unfold digW; split
  · rw [digL_len]; omega
  · simp
theorem digW_get {x : Nat} {n : Int} {k : Nat} (h : k < (digW x n).length) : rg x < INF ∧ (digW x n).getD k 0 = sdg (sg x) (rv (rg x)) (k + 1) := by
  unfold digW at *
  split at h
  · rename_i hf
    rw [if_pos hf]
    rw [digL_len] at h
    exact ⟨hf, digL_get h⟩
  · simp at h

/-- a number that is not negative has digits 0 and 1 alone -/
theorem sdg_pos {x : Nat} (h : 0 ≤ key x) (i : Nat) : 0 ≤ sdg (sg x) (rv (rg x)) i ∧ sdg (sg x) (rv (rg x)) i ≤ 1 := by
  have hb := dg_lt (rv (rg x)) i
  unfold key at h
  unfold sdg
  revert h
  cases sg x
  · simp only [Bool.false_eq_true, if_false]; intro _; omega
  · simp only [if_true]; intro h
    have : rg x = 0 := by omega
    have : dg (rv (rg x)) i = 0 := by rw [this, rv_zero]; unfold dg; simp
    omega

set_option maxHeartbeats 1600000 in
theorem walk (w : World) (x : Nat) (hx : x < 2 ^ 64) (n : Int) (_hn : -9223372036854775808 ≤ n ∧ n ≤ 9223372036854775807) :
    Calls Try.prog 10 #[.float .f64 x, .int .i64 n] w fun e' w' => e' = .returned (.bool true) ∧ Below w.heap.size w w' := by
  have hng := neg_run'
  have HD := Lib.hid (fun W : World => digits_any x n W hx)
  have HD2 := Lib.hid (fun W : World => digits_any (Op.negFloat .f64 x) n W (neg_lt x hx))
  rw [digW_neg hx] at HD2
  have hlen := digW_len x n
  have hget := Lib.hid (fun k => @digW_get x n k)
  obtain ⟨l, hl⟩ : ∃ l, digW x n = l := ⟨_, rfl⟩
  rw [hl] at HD HD2 hlen hget
  obtain ⟨N, hN⟩ : ∃ N, l.length = N := ⟨_, rfl⟩
  rw [hN] at hlen hget
  have HN := Lib.hid hN
  have hfinlen : Hid (rg x < INF → (N : Int) = n % 1200) := fun hf => by
    rw [← hN, ← hl]; unfold digW; rw [if_pos hf, digL_len]; omega
  have hempty : Hid (¬ rg x < INF → N = 0) := fun hf => by
    rw [← hN, ← hl]; unfold digW; rw [if_neg hf]; rfl
  clear hN hl
  go_enter Try.func10, Try.ntmps10
  go_wp2_with fail
  ((with_reducible refine (HD.out _).mono ?_); rintro e' w1 ⟨A, c, rfl, hc, hown, hbel⟩)
  have hil : (il l).length = N := by rw [il_len, HN.out]
  rw [hil] at hown hc ⊢
  clear HD hil
  go_wp2
  rcases Nat.eq_zero_or_pos N with h0 | h0
  · have h0' : N ≤ 0 := by omega
    obtain ⟨wr, rfl⟩ : ∃ wr : World, wr = w1 := ⟨_, rfl⟩
    have hrW : Rd wr wr.heap.size A (il (l.map fun a => -a)) := by
      obtain rfl : l = [] := List.eq_nil_of_length_eq_zero (by rw [HN.out]; exact h0)
      exact Rd.nil
    have hbW := hbel
    clear hown hbel h0
    refine wp_loop_rounds 1 ?_
    rw [rounds_succ]
    have HS := Lib.hid (fun (w2 : World) (A2 : Option Addr) (c2 : Nat) (hr2 : Rd w2 w2.heap.size A2 (il (l.map fun a => -a))) (hb2 : Below wr.heap.size wr w2) =>
      sameInts_any (l.map fun a => -a) A2 A c2 c N N w2.heap.size w2 (by rw [List.length_map, HN.out]) (by rw [List.length_map, HN.out]) (by omega) hr2 ((hrW.below hb2).more hb2.size))
    have hlm : Hid ((il (l.map fun a => -a)).length = N) := by show _ = _; rw [il_len, List.length_map, HN.out]
    clear hrW
    by_cases hf : rg x < INF
    · have hNn := hfinlen.out hf
      have hNn' : ((N : Int) == n % 1200) = true := by simp [hNn]
      clear hNn hfinlen hempty
      go_wp2_with (go_at_call 16; ((with_reducible refine (specAt_any _ _ _ (by decide) (by decide)).mono ?_)); rintro e' w' ⟨rfl, rfl⟩)
      ((with_reducible refine (HD2.out _).mono ?_); rintro e' w2 ⟨A2, c2, rfl, hc2, hown2, hbel2⟩)
      have hs2 := Lib.hid (HS.out w2 A2 c2 (Rd.of_own hown2) hbel2)
      rw [hlm.out]
      clear hown2 hc2 HS HD2
      go_wp2_with fail
      ((with_reducible refine (hs2.out).mono ?_); rintro e' w3 ⟨rfl, hq3⟩)
      go_wp2
      go_ret
      exact ⟨rfl, (hbW.trans (hbel2.mono hbW.size)).trans (hq3.below _)⟩
    · have hF := Lib.hid (fun W : World => specFinite_no x W (by omega))
      obtain rfl := hempty.out hf
      clear hfinlen hempty
      by_cases hz : n % 1200 = 0
      · have hz' : (((0 : Nat) : Int) == n % 1200) = true := by simp [hz]
        have hz2 : ((0 : Int) == n % 1200) = true := by simp [hz]
        clear hz
        go_wp2_with (go_at_call 16; ((with_reducible refine (specAt_any _ _ _ (by decide) (by decide)).mono ?_)); rintro e' w' ⟨rfl, rfl⟩)
        ((with_reducible refine (HD2.out _).mono ?_); rintro e' w2 ⟨A2, c2, rfl, hc2, hown2, hbel2⟩)
        have hs2 := Lib.hid (HS.out w2 A2 c2 (Rd.of_own hown2) hbel2)
        rw [hlm.out]
        clear hown2 hc2 HS HD2
        go_wp2_with fail
        ((with_reducible refine (hs2.out).mono ?_); rintro e' w3 ⟨rfl, hq3⟩)
        go_wp2
        go_ret
        exact ⟨rfl, (hbW.trans (hbel2.mono hbW.size)).trans (hq3.below _)⟩
      · have hz' : (((0 : Nat) : Int) == n % 1200) = false := by simp; omega
        have hz2 : ((0 : Int) == n % 1200) = false := by simp; omega
        clear hz
        go_wp2_with (go_at_call 16; ((with_reducible refine (specAt_any _ _ _ (by decide) (by decide)).mono ?_)); rintro e' w' ⟨rfl, rfl⟩)
        ((with_reducible refine (hF.out _).mono ?_); rintro e' wf ⟨rfl, hqf⟩)
        go_wp2_with fail
        ((with_reducible refine (HD2.out _).mono ?_); rintro e' w2 ⟨A2, c2, rfl, hc2, hown2, hbel2⟩)
        have hs2 := Lib.hid (HS.out w2 A2 c2 (Rd.of_own hown2) (((hqf.below _).trans (hbel2.mono (by rw [hqf.size]; exact Nat.le_refl _)))))
        rw [hlm.out]
        clear hown2 hc2 HS HD2
        go_wp2_with fail
        ((with_reducible refine (hs2.out).mono ?_); rintro e' w3 ⟨rfl, hq3⟩)
        go_wp2
        go_ret
        exact ⟨rfl, ((hbW.trans (hqf.below _)).trans (hbel2.mono (by rw [hqf.size]; exact hbW.size))).trans (hq3.below _)⟩
  · obtain ⟨g, hg, hA⟩ : ∃ g : Nat, w.heap.size ≤ g ∧ A = some ⟨g, 0, none⟩ := by
      rcases hown.2 with ⟨_, hz⟩ | ⟨g, cap, cur, hv, hg, _⟩
      · omega
      · exact ⟨g, hg, by injection hv⟩
    subst hA
    go_loopw [6, 12] (fun _ i wr => ∃ k : Nat, k ≤ N ∧ i = .int .i64 k ∧ wr.ownsRow w.heap.size 3 1 (.slice (some ⟨g, 0, none⟩) N c) N (il (negTo l k)) ∧ Below w.heap.size w wr) (fun _ i _ => N - (intOf i).toNat)
    case atStart => exact ⟨0, Nat.zero_le _, rfl, by rw [negTo_zero]; exact hown, hbel⟩
    case round =>
      clear hown hbel
      obtain ⟨k, hk, rfl, hown, hbel⟩ := hrel
      by_cases hlt : k < N
      · have hcell := hown.cellAt k (by omega)
        have hfz := hown.frozenAt k
        obtain ⟨hfi, hgt⟩ := hget.out k hlt
        have hcell2 : wr.cell? ⟨g, k, none⟩ = some (.int .i64 (l.getD k 0)) := by
          rw [hcell, ← negTo_get (by rw [HN.out]; exact hlt), List.getD_eq_getElem?_getD]
          unfold il
          rw [List.getElem?_map, List.getElem?_eq_getElem (by rw [negTo_len, HN.out]; exact hlt)]; rfl
        have hst := hown.stored k (.int .i64 (-(l.getD k 0)))
        rw [il_set, negTo_succ (by rw [HN.out]; exact hlt)] at hst
        have hbel2 : Below w.heap.size w (wr.setCell ⟨g, k, none⟩ (.int .i64 (-(l.getD k 0)))) := hbel.setCell hg _
        have hbd := sdg_bd (sg x) (rv (rg x)) (k + 1)
        have hps := fun h => sdg_pos (x := x) h (k + 1)
        rw [← hgt] at hbd hps
        have hge := c_ge (a := x) (b := 0) (Nat.le_of_lt hfi) rg_zero_le
        rw [key_zero] at hge
        generalize l.getD k 0 = dv at *
        have hst' := Lib.hid hst.1
        have hb2' := Lib.hid hbel2
        have hcn : (wr.setCell ⟨g, k, none⟩ (.int .i64 (-dv))).cell? ⟨g, k, none⟩ = some (.int .i64 (-dv)) := World.cell?_setCell_same _ _ _ hcell2
        have hwr : IntKind.i64.wrap (-dv) = -dv := IntWalk.i64_in _ (by omega)
        have hdv1 : -1 ≤ dv := hbd.1
        have hdv2 : dv ≤ 1 := hbd.2
        have hps' := Lib.hid hps
        clear hcell hst hown hbel hbel2 hgt hps hbd
        by_cases hk0 : 0 ≤ key x
        · rw [decide_eq_true hk0] at hge
          obtain ⟨p1, p2⟩ := hps'.out hk0
          have p3 : ¬ (0 : Int) < -dv := by omega
          have p4 : ¬ -dv < -1 := by omega
          clear hps' hk0
          go_wp2
          go_roundw
          case rel => exact ⟨k + 1, by omega, by go_num, hst'.out, hb2'.out⟩
          case measure => simp [intOf]; omega
        · rw [decide_eq_false hk0] at hge
          clear hps' hk0
          go_wp2
          go_roundw
          case rel => exact ⟨k + 1, by omega, by go_num, hst'.out, hb2'.out⟩
          case measure => simp [intOf]; omega
      · have hkN : negTo l k = l.map fun a => -a := by
          rw [← negTo_all]; congr 1; rw [HN.out]; omega
        have hrW : Rd wr wr.heap.size (some ⟨g, 0, none⟩) (il (l.map fun a => -a)) := by
          rw [hkN] at hown
          have hl2 : (il (l.map fun a => -a)).length = N := by rw [il_len, List.length_map, HN.out]
          rw [← hl2] at hown
          exact Rd.of_own hown
        have hbW := hbel
        clear hown hbel hkN
        have HS := Lib.hid (fun (w2 : World) (A2 : Option Addr) (c2 : Nat) (hr2 : Rd w2 w2.heap.size A2 (il (l.map fun a => -a))) (hb2 : Below wr.heap.size wr w2) =>
          sameInts_any (l.map fun a => -a) A2 (some ⟨g, 0, none⟩) c2 c N N w2.heap.size w2 (by rw [List.length_map, HN.out]) (by rw [List.length_map, HN.out]) (by omega) hr2 ((hrW.below hb2).more hb2.size))
        have hlm : Hid ((il (l.map fun a => -a)).length = N) := by show _ = _; rw [il_len, List.length_map, HN.out]
        clear hrW
        by_cases hf : rg x < INF
        · have hNn := hfinlen.out hf
          have hNn' : ((N : Int) == n % 1200) = true := by simp [hNn]
          clear hNn hfinlen hempty
          go_wp2_with (go_at_call 16; ((with_reducible refine (specAt_any _ _ _ (by decide) (by decide)).mono ?_)); rintro e' w' ⟨rfl, rfl⟩)
          ((with_reducible refine (HD2.out _).mono ?_); rintro e' w2 ⟨A2, c2, rfl, hc2, hown2, hbel2⟩)
          have hs2 := Lib.hid (HS.out w2 A2 c2 (Rd.of_own hown2) hbel2)
          rw [hlm.out]
          clear hown2 hc2 HS HD2
          go_wp2_with fail
          ((with_reducible refine (hs2.out).mono ?_); rintro e' w3 ⟨rfl, hq3⟩)
          go_wp2
          go_ret
          exact ⟨rfl, (hbW.trans (hbel2.mono hbW.size)).trans (hq3.below _)⟩
        · exact absurd (hempty.out hf) (by omega)
end Go.Proofs.Ytcgbghmeommmfaa.LDigitsOpposite
