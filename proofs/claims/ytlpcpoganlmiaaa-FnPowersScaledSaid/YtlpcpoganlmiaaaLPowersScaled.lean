/-
  The walk of laws.FnPowersScaled: it returns true, for every number and every k.
-/
import Derived.Test.YtlpcpoganlmiaaaPow
import Derived.Test.YtlpcpoganlmiaaaSmi
import Derived.Test.YtlpcpoganlmiaaaLdx
import Derived.Test.YtlpcpoganlmiaaaLawA
import Derived.Test.YtlpcpoganlmiaaaMid
namespace Go.Proofs.Ytlpcpoganlmiaaa.LPowersScaled
open Go.RowKit Flt

/-- the first k numbers raised by j -/
def addTo (j : Int) (l : List Int) (k : Nat) : List Int := (l.take k).map (fun a => a + j) ++ l.drop k
theorem addTo_len (j : Int) (l : List Int) (k : Nat) : (addTo j l k).length = l.length := by
  unfold addTo; simp; omega
theorem addTo_zero (j : Int) (l : List Int) : addTo j l 0 = l := by simp [addTo]
theorem addTo_get {j : Int} {l : List Int} {k : Nat} (h : k < l.length) : (addTo j l k).getD k 0 = l.getD k 0 := by
  unfold addTo
  rw [List.getD_eq_getElem?_getD, List.getElem?_append_right (by simp; omega), List.getD_eq_getElem?_getD, List.getElem?_drop]
  congr 2
  simp; omega
theorem addTo_succ {j : Int} {l : List Int} {k : Nat} (h : k < l.length) : (addTo j l k).set k (l.getD k 0 + j) = addTo j l (k + 1) := by
  unfold addTo
  rw [take_snoc l k 0 h, List.map_append, List.set_append_right _ _ (by simp; omega)]
  have : l.drop k = l.getD k 0 :: l.drop (k + 1) := by
    rw [List.drop_eq_getElem_cons h, List.getD_eq_getElem?_getD, List.getElem?_eq_getElem h]; rfl
  rw [this]
  simp [Nat.min_eq_left (Nat.le_of_lt h)]
theorem addTo_all (j : Int) (l : List Int) : addTo j l l.length = l.map (fun a => a + j) := by
  unfold addTo; simp
theorem il_set (l : List Int) (k : Nat) (a : Int) : (il l).set k (.int .i64 a) = il (l.set k a) := by
  unfold il; rw [List.map_set]

theorem rv_scaled {r s : Nat} {j : Int} (hr : 2 ^ 52 ≤ r) (hs : 2 ^ 52 ≤ s) (h : (s : Int) = r + j * 2 ^ 52) : pwI (pws (rv s)) = (pwI (pws (rv r))).map (fun a => a + j) := by
  have key : ∀ (n k : Nat), pwI (pws (n * 2 ^ k)) = (pwI (pws n)).map (fun a => a + (k : Int)) := by
    intro n k
    rw [pws_mul]
    unfold pwI
    rw [List.map_map, List.map_map]
    refine List.map_congr_left fun a _ => ?_
    show ((a + k : Nat) : Int) - 1074 = (a : Int) - 1074 + k
    omega
  rcases Int.lt_or_le j 0 with hj | hj
  · obtain ⟨k, rfl⟩ : ∃ k : Nat, j = -(k : Int) := ⟨(-j).toNat, by omega⟩
    have e : r = s + k * 2 ^ 52 := by omega
    rw [e, rv_shift hs k, key, List.map_map]
    conv => lhs; rw [← List.map_id (pwI (pws (rv s)))]
    refine List.map_congr_left fun a _ => ?_
    show a = a + (k : Int) + -(k : Int)
    omega
  · obtain ⟨k, rfl⟩ : ∃ k : Nat, j = (k : Int) := ⟨j.toNat, by omega⟩
    have e : s = r + k * 2 ^ 52 := by omega
    rw [e, rv_shift hr k, key]

theorem law {x y : Nat} {j : Int} (hx : x < 2 ^ 64) (hy : rg y = rg x) (hyl : y < 2 ^ 64) (hm : Mid (rg x)) (h0 : rg x ≠ 0) (j1 : -300 ≤ j) (j2 : j ≤ 300) : pwW (ld y j) = (pwW x).map (fun a => a + j) := by
  have _u := hx
  clear _u
  have hI := INF_val
  rcases hm with hm | ⟨m1, m2⟩
  · exact absurd hm h0
  obtain ⟨s, hs⟩ : ∃ s : Nat, (s : Int) = rg x + j * 2 ^ 52 := ⟨(rg x + j * 2 ^ 52 : Int).toNat, by omega⟩
  have e : rg (ld y j) = s := by
    rw [rg_ld j hyl, hy]
    exact sl_mid (by omega) (by omega) s (by omega) (by omega) hs
  unfold pwW
  rw [e, if_pos (by omega), if_pos (by omega)]
  exact rv_scaled (by omega) (by omega) hs

theorem pos_len {x : Nat} (h0 : rg x ≠ 0) (hf : rg x < INF) : 0 < (pwW x).length := by
  unfold pwW
  rw [if_pos hf, pwI_len, pws_pos (by have := rv_pos (r := rg x) (by omega); omega)]
  simp
theorem pwW_bd (x k : Nat) : -1074 ≤ (pwW x).getD k 0 ∧ (pwW x).getD k 0 ≤ 5000 := by
  unfold pwW
  split
  · rename_i hf
    rcases Nat.lt_or_ge k (pws (rv (rg x))).length with hi | hi
    · have e : (pwI (pws (rv (rg x)))).getD k 0 = (((pws (rv (rg x))).getD k 0 : Nat) : Int) - 1074 := by
        unfold pwI
        rw [List.getD_eq_getElem?_getD, List.getD_eq_getElem?_getD, List.getElem?_map, List.getElem?_eq_getElem hi]; rfl
      have he := e0_eq
      have hl := (fits_rv hf).lt
      rw [TOP_eq] at hl
      have := pws_lt _ _ hl _ (getD_mem (pws (rv (rg x))) k 0 hi)
      rw [e]; omega
    · rw [List.getD_eq_getElem?_getD, List.getElem?_eq_none (by rw [pwI_len]; exact hi)]
      simp
  · simp

set_option maxRecDepth 100000 in
set_option maxHeartbeats 3200000 in
theorem walk_mid (w : World) (x : Nat) (hx : x < 2 ^ 64) (k : Int) (hm : Mid (rg x)) (h0 : rg x ≠ 0) :
    Calls Try.prog 9 #[.float .f64 x, .int .i64 k] w fun e' w' => e' = .returned (.bool true) ∧ Below w.heap.size w w' := by
  have hI := INF_val
  have hfin : rg x < INF := by rcases hm with h | ⟨_, h⟩ <;> omega
  have hng : ∀ (b : Nat) (W : World), (Op.unary .neg (.float .f64 b)).run Try.prog W = .ok (.float .f64 (Op.negFloat .f64 b)) W := fun _ _ => rfl
  have HMid := Lib.hid (fun W : World => middle_any x W hx)
  rw [decide_eq_true hm] at HMid
  have b0 : (FloatKind.f64.format.order x 0 == some .eq) = false := by
    have hk : key x ≠ 0 := by have := key_natAbs x; omega
    rw [c_eq (Nat.le_of_lt hfin) rg_zero_le, key_zero, decide_eq_false hk]
  obtain ⟨j, hj⟩ : ∃ j : Int, k % 601 - 300 = j := ⟨_, rfl⟩
  have d1 := Int.emod_nonneg k (show (601 : Int) ≠ 0 by omega)
  have d2 := Int.emod_lt_of_pos k (show (0 : Int) < 601 by omega)
  have j1 : -300 ≤ j := by omega
  have j2 : j ≤ 300 := by omega
  have hJ := Lib.hid hj
  have l1 := law hx rfl hx hm h0 j1 j2
  have l2 := law hx (rg_neg x hx) (neg_lt x hx) hm h0 j1 j2
  have HL := Lib.hid (fun W : World => impLdexp_any x (j + 4000) W hx)
  have HL2 := Lib.hid (fun W : World => impLdexp_any (Op.negFloat .f64 x) (j + 4000) W (neg_lt x hx))
  rw [ex_shift (by omega) (by omega)] at HL HL2
  have HP := Lib.hid (fun W : World => powers_any x W hx)
  have HP1 := Lib.hid (fun W : World => powers_any (ld x j) W (ld_lt _ hx))
  have HP2 := Lib.hid (fun W : World => powers_any (ld (Op.negFloat .f64 x) j) W (ld_lt _ (neg_lt x hx)))
  rw [l1] at HP1
  rw [l2] at HP2
  have hpos := pos_len h0 hfin
  have hlen := pwW_len (x := x)
  have hbd := Lib.hid (pwW_bd x)
  generalize pwW x = l at *
  generalize ld x j = z1 at *
  generalize ld (Op.negFloat .f64 x) j = z2 at *
  generalize hN : l.length = N at *
  have HN := Lib.hid hN
  have hlm : Hid ((il (l.map fun a => a + j)).length = N) := by show _ = _; rw [il_len, List.length_map, HN.out]
  clear hj hN l1 l2 hm h0 hfin hI hx
  go_enter Try.func9, Try.ntmps9
  go_wp2_with (first | (go_at_call 19; ((with_reducible refine (HMid.out _).mono ?_)); rintro e w' ⟨rfl, rfl⟩) | (go_at_call 18; ((with_reducible refine (specAt_any _ _ _ (by decide) (by decide)).mono ?_)); rintro e w' ⟨rfl, rfl⟩))
  rw [hJ.out]
  clear hJ d1 d2
  ((with_reducible refine (HP.out _).mono ?_); rintro e' w1 ⟨A, c, rfl, hc, hown, hbel⟩)
  have hil : (il l).length = N := by rw [il_len, HN.out]
  rw [hil] at hown hc ⊢
  clear HP hil
  obtain ⟨g, hg, hA⟩ : ∃ g : Nat, w.heap.size ≤ g ∧ A = some ⟨g, 0, none⟩ := by
    rcases hown.2 with ⟨_, hz⟩ | ⟨g, cap, cur, hv, hg, _⟩
    · omega
    · exact ⟨g, hg, by injection hv⟩
  subst hA
  go_wp2
  go_loopw [6, 21] (fun _ i wr => ∃ q : Nat, q ≤ N ∧ i = .int .i64 q ∧ wr.ownsRow w.heap.size 3 1 (.slice (some ⟨g, 0, none⟩) N c) N (il (addTo j l q)) ∧ Below w.heap.size w wr) (fun _ i _ => N - (intOf i).toNat)
  case atStart => exact ⟨0, Nat.zero_le _, rfl, by rw [addTo_zero]; exact hown, hbel⟩
  case round =>
    clear hown hbel
    obtain ⟨q, hq, rfl, hown, hbel⟩ := hrel
    by_cases hlt : q < N
    · have hcell := hown.cellAt q (by omega)
      have hfz := hown.frozenAt q
      have hcell2 : wr.cell? ⟨g, q, none⟩ = some (.int .i64 (l.getD q 0)) := by
        rw [hcell, ← addTo_get (j := j) (by rw [HN.out]; exact hlt), List.getD_eq_getElem?_getD]
        unfold il
        rw [List.getElem?_map, List.getElem?_eq_getElem (by rw [addTo_len, HN.out]; exact hlt)]; rfl
      have hst := hown.stored q (.int .i64 (l.getD q 0 + j))
      rw [il_set, addTo_succ (by rw [HN.out]; exact hlt)] at hst
      have hbel2 : Below w.heap.size w (wr.setCell ⟨g, q, none⟩ (.int .i64 (l.getD q 0 + j))) := hbel.setCell hg _
      obtain ⟨p1, p2⟩ := hbd.out q
      generalize l.getD q 0 = dv at *
      have hst' := Lib.hid hst.1
      have hb2' := Lib.hid hbel2
      clear hcell hst hown hbel hbel2
      go_wp2
      go_roundw
      case rel => exact ⟨q + 1, by omega, by go_num, hst'.out, hb2'.out⟩
      case measure => simp [intOf]; omega
    · have hkN : addTo j l q = l.map fun a => a + j := by
        rw [← addTo_all]; congr 1; rw [HN.out]; omega
      have hrW : Rd wr wr.heap.size (some ⟨g, 0, none⟩) (il (l.map fun a => a + j)) := by
        rw [hkN] at hown
        rw [← hlm.out] at hown
        exact Rd.of_own hown
      have hbW := hbel
      clear hown hbel hkN
      have HS := Lib.hid (fun (w2 : World) (A2 : Option Addr) (c2 : Nat) (hr2 : Rd w2 w2.heap.size A2 (il (l.map fun a => a + j))) (hb2 : Below wr.heap.size wr w2) =>
        sameInts_any (l.map fun a => a + j) A2 (some ⟨g, 0, none⟩) c2 c N N w2.heap.size w2 (by rw [List.length_map, HN.out]) (by rw [List.length_map, HN.out]) (by omega) hr2 ((hrW.below hb2).more hb2.size))
      clear hrW hbd HMid
      go_wp2_with fail
      ((with_reducible refine (shift_any _ _ (by omega) (by omega)).mono ?_); rintro e w' ⟨rfl, rfl⟩)
      go_wp2_with fail
      ((with_reducible refine (HL.out _).mono ?_); rintro e w' ⟨rfl, rfl⟩)
      go_wp2_with fail
      ((with_reducible refine (HP1.out _).mono ?_); rintro e' w2 ⟨A2, c2, rfl, hc2, hown2, hbel2⟩)
      have hs2 := Lib.hid (HS.out w2 A2 c2 (Rd.of_own hown2) hbel2)
      rw [hlm.out]
      clear hown2 hc2 HP1 HL
      go_wp2_with fail
      ((with_reducible refine (hs2.out).mono ?_); rintro e' w3 ⟨rfl, hq3⟩)
      have hb3 : Below wr.heap.size wr w3 := hbel2.trans (hq3.below _)
      go_wp2_with fail
      ((with_reducible refine (shift_any _ _ (by omega) (by omega)).mono ?_); rintro e w' ⟨rfl, rfl⟩)
      go_wp2_with fail
      ((with_reducible refine (HL2.out _).mono ?_); rintro e w' ⟨rfl, rfl⟩)
      go_wp2_with fail
      ((with_reducible refine (HP2.out _).mono ?_); rintro e' w4 ⟨A4, c4, rfl, hc4, hown4, hbel4⟩)
      have hb4 : Below wr.heap.size wr w4 := hb3.trans (hbel4.mono hb3.size)
      have hs4 := Lib.hid (HS.out w4 A4 c4 (Rd.of_own hown4) hb4)
      rw [hlm.out]
      clear hown4 hc4 HP2 HL2 hs2 HS
      go_wp2_with fail
      ((with_reducible refine (hs4.out).mono ?_); rintro e' w5 ⟨rfl, hq5⟩)
      go_wp2
      go_ret
      exact ⟨rfl, (hbW.trans (hb4.mono hbW.size)).trans (hq5.below _)⟩

set_option maxHeartbeats 800000 in
theorem walk_not (w : World) (x : Nat) (hx : x < 2 ^ 64) (k : Int) (hm : ¬ (Mid (rg x) ∧ rg x ≠ 0)) :
    Calls Try.prog 9 #[.float .f64 x, .int .i64 k] w fun e' w' => e' = .returned (.bool true) ∧ Below w.heap.size w w' := by
  have HMid := Lib.hid (fun W : World => middle_any x W hx)
  by_cases h : Mid (rg x)
  · rw [decide_eq_true h] at HMid
    have h0 : rg x = 0 := by
      rcases Nat.eq_zero_or_pos (rg x) with hz | hz
      · exact hz
      · exact absurd ⟨h, by omega⟩ hm
    have b0 : (FloatKind.f64.format.order x 0 == some .eq) = true := by
      have hk : key x = 0 := by have := key_natAbs x; omega
      rw [c_eq (by rw [h0]; exact Nat.zero_le _) rg_zero_le, key_zero, decide_eq_true hk]
    clear h h0 hm hx
    go_enter Try.func9, Try.ntmps9
    go_wp2_with (go_at_call 19; ((with_reducible refine (HMid.out _).mono ?_)); rintro e w' ⟨rfl, rfl⟩)
    go_ret
    exact ⟨rfl, Below.refl _ _⟩
  · rw [decide_eq_false h] at HMid
    clear h hm hx
    go_enter Try.func9, Try.ntmps9
    go_wp2_with (go_at_call 19; ((with_reducible refine (HMid.out _).mono ?_)); rintro e w' ⟨rfl, rfl⟩)
    go_ret
    exact ⟨rfl, Below.refl _ _⟩

theorem walk (w : World) (x : Nat) (hx : x < 2 ^ 64) (k : Int) (_hk : -9223372036854775808 ≤ k ∧ k ≤ 9223372036854775807) :
    Calls Try.prog 9 #[.float .f64 x, .int .i64 k] w fun e' w' => e' = .returned (.bool true) ∧ Below w.heap.size w w' := by
  by_cases hm : Mid (rg x) ∧ rg x ≠ 0
  · exact walk_mid w x hx k hm.1 hm.2
  · exact walk_not w x hx k hm
end Go.Proofs.Ytlpcpoganlmiaaa.LPowersScaled
