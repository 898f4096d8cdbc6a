/-
  Contract of the reference's rounded: the nearest number.
-/
import Derived.Test.YtbhallblmphlmaaNwk
import Derived.Test.YtbhallblmphlmaaSpcD
namespace Go.Proofs.Ytbhallblmphlmaa
open Go.RowKit Flt

/-- what the walk of rounded is told of the natural -/
structure NatIn (w : World) (A : Option Addr) (n : Nat) (ws : List Nat) (N : Nat) : Prop where
  len : ws.length = n
  reads : Rd w w.heap.size A (ul ws)
  words : W32 ws
  small : n ≤ 10000
  value : nv ws = N

theorem NatIn.bit {w : World} {A : Option Addr} {n c : Nat} {ws : List Nat} {N : Nat} (h : NatIn w A n ws N) (i : Int) (hi : i ≤ 1000000) :
    Calls Try.prog 43 #[.slice A n c, .int .i64 i] w fun e w' => e = .returned (.int .u64 ((bq N i : Nat) : Int)) ∧ w = w' := by
  have := bit_any ws A n c w.heap.size i w h.len h.reads h.words (by have := h.small; omega) hi
  rwa [h.value] at this
theorem NatIn.length {w : World} {A : Option Addr} {n c : Nat} {ws : List Nat} {N : Nat} (h : NatIn w A n ws N) :
    Calls Try.prog 42 #[.slice A n c] w fun e w' => e = .returned (.int .i64 (bl N : Int)) ∧ w = w' := by
  have := natLength_any ws A n c w.heap.size w h.len h.reads h.words (by have := h.small; omega)
  rwa [h.value] at this

set_option maxHeartbeats 400000 in
theorem rounded_zero (neg : Bool) (ws : List Nat) (A : Option Addr) (n c : Nat) (e : Int) (w : World) (h : NatIn w A n ws 0) :
    Calls Try.prog 36 #[.bool neg, .slice A n c, .int .i64 e] w fun e' w' => e' = .returned (.float .f64 0) ∧ w = w' := by
  have H := Lib.hid (h.length (c := c))
  rw [bl_zero] at H
  clear h
  go_enter Try.func36, Try.ntmps36
  go_wp2_with (go_at_call 42; ((with_reducible refine (H.out).mono ?_)); rintro e w' ⟨rfl, rfl⟩)
  go_ret
  exact ⟨rfl, rfl⟩

/-- the code's last, as the walk spells it -/
theorem last_eq (N : Nat) (e : Int) : max (e + (bl N : Int) - 53) (-1074) = (tq N (e + 1074) : Int) - 1074 := by
  unfold tq; omega

/-- what comes of the significand that is kept -/
theorem rdd_tail (neg : Bool) {N t M : Nat} {d e : Int} (hN : 0 < N) (ht : t = tq N (e + 1074)) (hd : d = (t : Int) - (e + 1074)) (hm : M = rq N d) :
    M ≤ 2 ^ 53 ∧ (1024 < (bl M : Int) + ((t : Int) - 1074) → mk neg INF = rdd neg N (e + 1074)) ∧ ((bl M : Int) + ((t : Int) - 1074) ≤ 1024 → Fits (M * 2 ^ t) ∧ mk neg (wd (M * 2 ^ t)) = rdd neg N (e + 1074) ∧ t ≤ 2100) := by
  have hr := rq_range hN (e + 1074)
  rw [← ht, ← hd, ← hm] at hr
  have hov := rq_over hr.1 hr.2
  rw [hd] at hm
  refine ⟨hr.1, fun h => rdd_over hN ht hm (hov.1 h), fun h => ?_⟩
  have hno : ¬ INF ≤ t * 2 ^ 52 + M := fun x => by have := hov.2 x; omega
  have hin := rdd_in (neg := neg) hN ht hm hno
  exact ⟨hin.1, hin.2, by have := INF_val; omega⟩

set_option maxHeartbeats 3200000 in
theorem rounded_low (neg : Bool) (ws : List Nat) (A : Option Addr) (n c N : Nat) (e : Int) (w : World) (h : NatIn w A n ws N) (hN : 0 < N) (hb : bl N ≤ 100000) (he1 : -100000 ≤ e) (he2 : e ≤ 100000) (hcut : e + (bl N : Int) - 53 < -1074) :
    Calls Try.prog 36 #[.bool neg, .slice A n c, .int .i64 e] w fun e' w' => e' = .returned (.float .f64 (rdd neg N (e + 1074))) ∧ Below w.heap.size w w' := by
  have H := Lib.hid (h.length (c := c))
  have HB := Lib.hid (fun (i : Int) (hi : i ≤ 1000000) => h.bit (c := c) i hi)
  have hbl : 0 < bl N := by rw [bl_pos hN]; omega
  have hlast := Lib.hid (last_eq N e)
  have htop : Hid (fq N ((tq N (e + 1074) : Int) - (e + 1074) + 53) = 0) := fq_top (lt_bl N) (by unfold tq; omega)
  have ht1 : (tq N (e + 1074) : Int) ≤ 300000 := by unfold tq; omega
  obtain ⟨t, ht⟩ : ∃ t, t = tq N (e + 1074) := ⟨_, rfl⟩
  obtain ⟨d, hd⟩ : ∃ d : Int, d = (t : Int) - (e + 1074) := ⟨_, rfl⟩
  rw [← ht] at hlast htop ht1
  rw [← hd] at htop
  have hd1 : d ≤ 1000000 - 60 := by omega
  have hd2 : -1000000 ≤ d := by omega
  have HN := Lib.hid hN
  have Ht := Lib.hid ht
  have hbN : (bl N == 0) = false := by simp; omega
  have hbN' : ((bl N : Int) == 0) = false := by simp; omega
  clear h hN ht
  go_enter Try.func36, Try.ntmps36
  go_wp2_with (go_at_call 42; ((with_reducible refine (H.out).mono ?_)); rintro e w' ⟨rfl, rfl⟩)
  rw [show (-1074 : Int) = (t : Int) - 1074 by have := hlast.out; omega]
  clear hlast hbl hbN hbN' H
  go_loopw [8, 9] (fun m i wr => ∃ j : Nat, j ≤ 53 ∧ i = .int .i64 ((j : Int) - 1) ∧ m = .int .u64 ((fq N (d + j) : Nat) : Int) ∧ Hid (fq N (d + j) < 2 ^ (53 - j)) ∧ wr = w) (fun _ i _ => (intOf i + 1).toNat)
  case atStart => exact ⟨53, by omega, by go_num, by rw [show d + ((53 : Nat) : Int) = d + 53 from rfl, htop.out]; rfl, by show fq N (d + 53) < _; rw [htop.out]; decide, rfl⟩
  case round =>
    obtain ⟨j, hj, rfl, rfl, hm, hwr⟩ := hrel
    obtain rfl : w = wr := hwr.symm
    have hdd := Lib.hid hd
    clear hd
    rcases j with _ | j
    · rw [show (((0 : Nat) : Int)) - 1 = -1 from rfl, show d + ((0 : Nat) : Int) = d by omega] at *
      have hmb : fq N d < 9007199254740992 := hm.out
      obtain ⟨m0, Hm0⟩ : ∃ m0, Hid (fq N d = m0) := ⟨_, rfl⟩
      rw [Hm0.out] at hmb ⊢
      obtain ⟨hf, Hhf⟩ : ∃ hf, Hid (bq N (d - 1) = hf) := ⟨_, rfl⟩
      have HB1 := Lib.hid (HB.out (d - 1) (by omega))
      rw [Hhf.out] at HB1
      have hh : hf = 0 ∨ hf = 1 := by have := bq_lt N (d - 1); rw [Hhf.out] at this; omega
      have Hh0 : Hid (hf = 0 → bq N (d - 1) = 0) := fun h => Hhf.out.trans h
      have Hh1 : Hid (hf = 1 → bq N (d - 1) = 1) := fun h => Hhf.out.trans h
      clear hm Hhf
      go_wp2_with fail
      rw [show (t : Int) - 1074 - e - 1 = d - 1 by have := hdd.out; omega]
      ((with_reducible refine HB1.out.mono ?_); rintro e' w' ⟨rfl, rfl⟩)
      go_wp2
      go_loopw [11, 12] (fun r i wr => ∃ (x : Int) (b : Bool), i = .int .i64 x ∧ x ≤ d - 2 ∧ -1000003 ≤ x ∧ r = .bool b ∧ Hid (b = restq N d x) ∧ wr = w) (fun _ i _ => (intOf i + 1).toNat)
      case atStart => exact ⟨d - 2, false, by rw [show (t : Int) - 1074 - e - 2 = d - 2 by have := hdd.out; omega], by omega, by omega, rfl, (restq_start N d).symm, rfl⟩
      case round =>
        obtain ⟨x, b, rfl, hx1, hx2, rfl, hbr, hwr⟩ := hrel
        obtain rfl : w = wr := hwr.symm
        by_cases hx0 : 0 ≤ x
        · obtain ⟨k, rfl⟩ : ∃ k : Nat, x = (k : Int) := ⟨x.toNat, by omega⟩
          have hst := restq_step (N := N) hx1
          rw [← hbr.out] at hst
          have HBk := Lib.hid (HB.out (k : Int) (by omega))
          have hbk := bq_lt N (k : Int)
          generalize bq N (k : Int) = bb at *
          cases b
          · rw [Bool.false_or] at hst
            rcases (show bb = 0 ∨ bb = 1 by omega) with rfl | rfl
            · have hst' : Hid (false = restq N d ((k : Int) - 1)) := hst.symm
              clear hst hbr hbk
              go_wp2_with (go_at_call 43; ((with_reducible refine HBk.out.mono ?_)); rintro e' w' ⟨rfl, rfl⟩)
              go_roundw
              case rel => exact ⟨(k : Int) - 1, false, rfl, by omega, by omega, rfl, hst'.out, trivial⟩
              case measure => simp [intOf]
            · have hst' : Hid (true = restq N d ((k : Int) - 1)) := hst.symm
              clear hst hbr hbk
              go_wp2_with (go_at_call 43; ((with_reducible refine HBk.out.mono ?_)); rintro e' w' ⟨rfl, rfl⟩)
              go_roundw
              case rel => exact ⟨(k : Int) - 1, true, rfl, by omega, by omega, rfl, hst'.out, trivial⟩
              case measure => simp [intOf]
          · rw [Bool.true_or] at hst
            have hst' : Hid (true = restq N d ((k : Int) - 1)) := hst.symm
            clear hst hbr hbk
            go_wp2
            go_roundw
            case rel => exact ⟨(k : Int) - 1, true, rfl, by omega, by omega, rfl, hst'.out, trivial⟩
            case measure => simp [intOf]
        · have hlow : Hid (b = lowq N d) := by show b = lowq N d; rw [hbr.out]; exact restq_end (by omega)
          clear hbr
          rcases hh with rfl | rfl
          · have hq : rq N d = m0 := by have := rq_plain (Hh0.out rfl); rw [this]; exact Hm0.out
            clear hlow Hh1
            have HR := Lib.hid (rdd_tail neg HN.out Ht.out hdd.out (M := m0) hq.symm)
            have hM53 : m0 ≤ 9007199254740992 := HR.out.1
            have HL := Lib.hid (fun W : World => specLength_any m0 W (by omega))
            clear hq
            go_wp2_with fail
            ((with_reducible refine (HL.out _).mono ?_); rintro e' w' ⟨rfl, rfl⟩)
            by_cases hov : 1024 < (bl m0 : Int) + ((t : Int) - 1074)
            · have hbm : (bl m0 : Int) ≤ 64 := by have := bl_le (n := m0) (k := 64) (by omega); omega
              have hres := Lib.hid (HR.out.2.1 hov)
              clear HR
              generalize bl m0 = y at *
              cases neg
              · go_wp2_with (go_at_call 45; ((with_reducible refine (specInf_pos _).mono ?_)); rintro e' w' ⟨rfl, rfl⟩)
                go_ret
                exact ⟨ret_float hres.out, Below.refl _ _⟩
              · go_wp2_with (go_at_call 45; ((with_reducible refine (specInf_neg _).mono ?_)); rintro e' w' ⟨rfl, rfl⟩)
                go_ret
                exact ⟨ret_float hres.out, Below.refl _ _⟩
            · have hbm : (bl m0 : Int) ≤ 64 := by have := bl_le (n := m0) (k := 64) (by omega); omega
              have hres := HR.out.2.2 (by omega)
              have hV := Lib.hid (value_is neg m0 t (fits_small (by omega)) hres.1 (by have := hres.2.2; omega))
              rw [hres.2.1] at hV
              clear HR hres
              have hbd := build3
              generalize bl m0 = y at *
              go_wp2_with (go_at_call 46; ((with_reducible refine (hV.out _ _ (by omega) (by omega) _).mono ?_)); rintro e' w2 ⟨rfl, hq⟩)
              go_ret
              exact ⟨rfl, hq⟩
          · cases b
            · rcases (show m0 % 2 = 0 ∨ m0 % 2 = 1 by omega) with hpar | hpar
              · have hq : rq N d = m0 := by have := rq_even hlow.out.symm (by rw [Hm0.out]; exact hpar); rw [this]; exact Hm0.out
                have hpi : ((m0 : Int) % 2 == 1) = false := by simp; omega
                clear hlow Hh1 Hh0 hpar
                have HR := Lib.hid (rdd_tail neg HN.out Ht.out hdd.out (M := m0) hq.symm)
                have hM53 : m0 ≤ 9007199254740992 := HR.out.1
                have HL := Lib.hid (fun W : World => specLength_any m0 W (by omega))
                clear hq
                go_wp2_with fail
                ((with_reducible refine (HL.out _).mono ?_); rintro e' w' ⟨rfl, rfl⟩)
                by_cases hov : 1024 < (bl m0 : Int) + ((t : Int) - 1074)
                · have hbm : (bl m0 : Int) ≤ 64 := by have := bl_le (n := m0) (k := 64) (by omega); omega
                  have hres := Lib.hid (HR.out.2.1 hov)
                  clear HR
                  generalize bl m0 = y at *
                  cases neg
                  · go_wp2_with (go_at_call 45; ((with_reducible refine (specInf_pos _).mono ?_)); rintro e' w' ⟨rfl, rfl⟩)
                    go_ret
                    exact ⟨ret_float hres.out, Below.refl _ _⟩
                  · go_wp2_with (go_at_call 45; ((with_reducible refine (specInf_neg _).mono ?_)); rintro e' w' ⟨rfl, rfl⟩)
                    go_ret
                    exact ⟨ret_float hres.out, Below.refl _ _⟩
                · have hbm : (bl m0 : Int) ≤ 64 := by have := bl_le (n := m0) (k := 64) (by omega); omega
                  have hres := HR.out.2.2 (by omega)
                  have hV := Lib.hid (value_is neg m0 t (fits_small (by omega)) hres.1 (by have := hres.2.2; omega))
                  rw [hres.2.1] at hV
                  clear HR hres
                  have hbd := build3
                  generalize bl m0 = y at *
                  go_wp2_with (go_at_call 46; ((with_reducible refine (hV.out _ _ (by omega) (by omega) _).mono ?_)); rintro e' w2 ⟨rfl, hq⟩)
                  go_ret
                  exact ⟨rfl, hq⟩
              · have hq : rq N d = m0 + 1 := by have := rq_up (Hh1.out rfl) (Or.inr (by rw [Hm0.out]; exact hpar)); rw [this, Hm0.out]
                have hpi : ((m0 : Int) % 2 == 1) = true := by simp; omega
                clear hlow Hh1 Hh0 hpar
                have HR := Lib.hid (rdd_tail neg HN.out Ht.out hdd.out (M := (m0 + 1)) hq.symm)
                have hM53 : (m0 + 1) ≤ 9007199254740992 := HR.out.1
                have HL := Lib.hid (fun W : World => specLength_any (m0 + 1) W (by omega))
                clear hq
                go_wp2_with fail
                (rw [show ((m0 : Int) + 1) = (((m0 + 1 : Nat)) : Int) by omega]; (with_reducible refine (HL.out _).mono ?_); rintro e' w' ⟨rfl, rfl⟩)
                by_cases hov : 1024 < (bl (m0 + 1) : Int) + ((t : Int) - 1074)
                · have hbm : (bl (m0 + 1) : Int) ≤ 64 := by have := bl_le (n := (m0 + 1)) (k := 64) (by omega); omega
                  have hres := Lib.hid (HR.out.2.1 hov)
                  clear HR
                  generalize bl (m0 + 1) = y at *
                  cases neg
                  · go_wp2_with (go_at_call 45; ((with_reducible refine (specInf_pos _).mono ?_)); rintro e' w' ⟨rfl, rfl⟩)
                    go_ret
                    exact ⟨ret_float hres.out, Below.refl _ _⟩
                  · go_wp2_with (go_at_call 45; ((with_reducible refine (specInf_neg _).mono ?_)); rintro e' w' ⟨rfl, rfl⟩)
                    go_ret
                    exact ⟨ret_float hres.out, Below.refl _ _⟩
                · have hbm : (bl (m0 + 1) : Int) ≤ 64 := by have := bl_le (n := (m0 + 1)) (k := 64) (by omega); omega
                  have hres := HR.out.2.2 (by omega)
                  have hV := Lib.hid (value_is neg (m0 + 1) t (fits_small (by omega)) hres.1 (by have := hres.2.2; omega))
                  rw [hres.2.1] at hV
                  clear HR hres
                  have hbd := build3
                  generalize bl (m0 + 1) = y at *
                  go_wp2_with (go_at_call 46; ((with_reducible refine (hV.out _ _ (by omega) (by omega) _).mono ?_)); rintro e' w2 ⟨rfl, hq⟩)
                  go_ret
                  exact ⟨rfl, hq⟩
            · have hq : rq N d = m0 + 1 := by have := rq_up (Hh1.out rfl) (Or.inl hlow.out.symm); rw [this, Hm0.out]
              clear hlow Hh1 Hh0
              have HR := Lib.hid (rdd_tail neg HN.out Ht.out hdd.out (M := (m0 + 1)) hq.symm)
              have hM53 : (m0 + 1) ≤ 9007199254740992 := HR.out.1
              have HL := Lib.hid (fun W : World => specLength_any (m0 + 1) W (by omega))
              clear hq
              go_wp2_with fail
              (rw [show ((m0 : Int) + 1) = (((m0 + 1 : Nat)) : Int) by omega]; (with_reducible refine (HL.out _).mono ?_); rintro e' w' ⟨rfl, rfl⟩)
              by_cases hov : 1024 < (bl (m0 + 1) : Int) + ((t : Int) - 1074)
              · have hbm : (bl (m0 + 1) : Int) ≤ 64 := by have := bl_le (n := (m0 + 1)) (k := 64) (by omega); omega
                have hres := Lib.hid (HR.out.2.1 hov)
                clear HR
                generalize bl (m0 + 1) = y at *
                cases neg
                · go_wp2_with (go_at_call 45; ((with_reducible refine (specInf_pos _).mono ?_)); rintro e' w' ⟨rfl, rfl⟩)
                  go_ret
                  exact ⟨ret_float hres.out, Below.refl _ _⟩
                · go_wp2_with (go_at_call 45; ((with_reducible refine (specInf_neg _).mono ?_)); rintro e' w' ⟨rfl, rfl⟩)
                  go_ret
                  exact ⟨ret_float hres.out, Below.refl _ _⟩
              · have hbm : (bl (m0 + 1) : Int) ≤ 64 := by have := bl_le (n := (m0 + 1)) (k := 64) (by omega); omega
                have hres := HR.out.2.2 (by omega)
                have hV := Lib.hid (value_is neg (m0 + 1) t (fits_small (by omega)) hres.1 (by have := hres.2.2; omega))
                rw [hres.2.1] at hV
                clear HR hres
                have hbd := build3
                generalize bl (m0 + 1) = y at *
                go_wp2_with (go_at_call 46; ((with_reducible refine (hV.out _ _ (by omega) (by omega) _).mono ?_)); rintro e' w2 ⟨rfl, hq⟩)
                go_ret
                exact ⟨rfl, hq⟩
    · have hfs := fq_succ N (d + j)
      have hbq := bq_lt N (d + j)
      have HBj := Lib.hid (HB.out (d + j) (by omega))
      rw [show d + ((j + 1 : Nat) : Int) = d + j + 1 by omega] at hm ⊢
      have hm2 : Hid (fq N (d + j) < 2 ^ (53 - j)) := by
        show fq N (d + j) < 2 ^ (53 - j)
        have := hm.out
        rw [hfs, show 53 - j = 53 - (j + 1) + 1 by omega, Nat.pow_succ]; omega
      have hmb : fq N (d + j + 1) < 9007199254740992 := Nat.lt_of_lt_of_le hm.out (Nat.le_trans (pow_le (show 53 - (j + 1) ≤ 53 by omega)) (by decide))
      have hfs' := Lib.hid hfs
      clear hfs hm
      generalize fq N (d + j + 1) = M at *
      generalize bq N (d + j) = b at *
      rw [show (((j + 1 : Nat) : Int)) - 1 = (j : Int) by omega]
      have hpos : (0 : Int) ≤ (j : Int) := by omega
      go_wp2_with fail
      rw [show (t : Int) - 1074 - e + (j : Int) = d + j by have := hdd.out; omega]
      ((with_reducible refine HBj.out.mono ?_); rintro e' w' ⟨rfl, rfl⟩)
      go_wp2
      go_roundw
      case rel => exact ⟨j, by omega, rfl, by rw [hfs'.out]; go_num, hm2.out, trivial⟩
      case measure => simp [intOf]

set_option maxHeartbeats 3200000 in
theorem rounded_high (neg : Bool) (ws : List Nat) (A : Option Addr) (n c N : Nat) (e : Int) (w : World) (h : NatIn w A n ws N) (hN : 0 < N) (hb : bl N ≤ 100000) (he1 : -100000 ≤ e) (he2 : e ≤ 100000) (hcut : -1074 ≤ e + (bl N : Int) - 53) :
    Calls Try.prog 36 #[.bool neg, .slice A n c, .int .i64 e] w fun e' w' => e' = .returned (.float .f64 (rdd neg N (e + 1074))) ∧ Below w.heap.size w w' := by
  have H := Lib.hid (h.length (c := c))
  have HB := Lib.hid (fun (i : Int) (hi : i ≤ 1000000) => h.bit (c := c) i hi)
  have hbl : 0 < bl N := by rw [bl_pos hN]; omega
  have hlast := Lib.hid (last_eq N e)
  have htop : Hid (fq N ((tq N (e + 1074) : Int) - (e + 1074) + 53) = 0) := fq_top (lt_bl N) (by unfold tq; omega)
  have ht1 : (tq N (e + 1074) : Int) ≤ 300000 := by unfold tq; omega
  obtain ⟨t, ht⟩ : ∃ t, t = tq N (e + 1074) := ⟨_, rfl⟩
  obtain ⟨d, hd⟩ : ∃ d : Int, d = (t : Int) - (e + 1074) := ⟨_, rfl⟩
  rw [← ht] at hlast htop ht1
  rw [← hd] at htop
  have hd1 : d ≤ 1000000 - 60 := by omega
  have hd2 : -1000000 ≤ d := by omega
  have HN := Lib.hid hN
  have Ht := Lib.hid ht
  have hbN : (bl N == 0) = false := by simp; omega
  have hbN' : ((bl N : Int) == 0) = false := by simp; omega
  clear h hN ht
  go_enter Try.func36, Try.ntmps36
  go_wp2_with (go_at_call 42; ((with_reducible refine (H.out).mono ?_)); rintro e w' ⟨rfl, rfl⟩)
  rw [show (e + (bl N : Int) - 53) = (t : Int) - 1074 by have := hlast.out; omega]
  clear hlast hbl hbN hbN' H
  go_loopw [8, 9] (fun m i wr => ∃ j : Nat, j ≤ 53 ∧ i = .int .i64 ((j : Int) - 1) ∧ m = .int .u64 ((fq N (d + j) : Nat) : Int) ∧ Hid (fq N (d + j) < 2 ^ (53 - j)) ∧ wr = w) (fun _ i _ => (intOf i + 1).toNat)
  case atStart => exact ⟨53, by omega, by go_num, by rw [show d + ((53 : Nat) : Int) = d + 53 from rfl, htop.out]; rfl, by show fq N (d + 53) < _; rw [htop.out]; decide, rfl⟩
  case round =>
    obtain ⟨j, hj, rfl, rfl, hm, hwr⟩ := hrel
    obtain rfl : w = wr := hwr.symm
    have hdd := Lib.hid hd
    clear hd
    rcases j with _ | j
    · rw [show (((0 : Nat) : Int)) - 1 = -1 from rfl, show d + ((0 : Nat) : Int) = d by omega] at *
      have hmb : fq N d < 9007199254740992 := hm.out
      obtain ⟨m0, Hm0⟩ : ∃ m0, Hid (fq N d = m0) := ⟨_, rfl⟩
      rw [Hm0.out] at hmb ⊢
      obtain ⟨hf, Hhf⟩ : ∃ hf, Hid (bq N (d - 1) = hf) := ⟨_, rfl⟩
      have HB1 := Lib.hid (HB.out (d - 1) (by omega))
      rw [Hhf.out] at HB1
      have hh : hf = 0 ∨ hf = 1 := by have := bq_lt N (d - 1); rw [Hhf.out] at this; omega
      have Hh0 : Hid (hf = 0 → bq N (d - 1) = 0) := fun h => Hhf.out.trans h
      have Hh1 : Hid (hf = 1 → bq N (d - 1) = 1) := fun h => Hhf.out.trans h
      clear hm Hhf
      go_wp2_with fail
      rw [show (t : Int) - 1074 - e - 1 = d - 1 by have := hdd.out; omega]
      ((with_reducible refine HB1.out.mono ?_); rintro e' w' ⟨rfl, rfl⟩)
      go_wp2
      go_loopw [11, 12] (fun r i wr => ∃ (x : Int) (b : Bool), i = .int .i64 x ∧ x ≤ d - 2 ∧ -1000003 ≤ x ∧ r = .bool b ∧ Hid (b = restq N d x) ∧ wr = w) (fun _ i _ => (intOf i + 1).toNat)
      case atStart => exact ⟨d - 2, false, by rw [show (t : Int) - 1074 - e - 2 = d - 2 by have := hdd.out; omega], by omega, by omega, rfl, (restq_start N d).symm, rfl⟩
      case round =>
        obtain ⟨x, b, rfl, hx1, hx2, rfl, hbr, hwr⟩ := hrel
        obtain rfl : w = wr := hwr.symm
        by_cases hx0 : 0 ≤ x
        · obtain ⟨k, rfl⟩ : ∃ k : Nat, x = (k : Int) := ⟨x.toNat, by omega⟩
          have hst := restq_step (N := N) hx1
          rw [← hbr.out] at hst
          have HBk := Lib.hid (HB.out (k : Int) (by omega))
          have hbk := bq_lt N (k : Int)
          generalize bq N (k : Int) = bb at *
          cases b
          · rw [Bool.false_or] at hst
            rcases (show bb = 0 ∨ bb = 1 by omega) with rfl | rfl
            · have hst' : Hid (false = restq N d ((k : Int) - 1)) := hst.symm
              clear hst hbr hbk
              go_wp2_with (go_at_call 43; ((with_reducible refine HBk.out.mono ?_)); rintro e' w' ⟨rfl, rfl⟩)
              go_roundw
              case rel => exact ⟨(k : Int) - 1, false, rfl, by omega, by omega, rfl, hst'.out, trivial⟩
              case measure => simp [intOf]
            · have hst' : Hid (true = restq N d ((k : Int) - 1)) := hst.symm
              clear hst hbr hbk
              go_wp2_with (go_at_call 43; ((with_reducible refine HBk.out.mono ?_)); rintro e' w' ⟨rfl, rfl⟩)
              go_roundw
              case rel => exact ⟨(k : Int) - 1, true, rfl, by omega, by omega, rfl, hst'.out, trivial⟩
              case measure => simp [intOf]
          · rw [Bool.true_or] at hst
            have hst' : Hid (true = restq N d ((k : Int) - 1)) := hst.symm
            clear hst hbr hbk
            go_wp2
            go_roundw
            case rel => exact ⟨(k : Int) - 1, true, rfl, by omega, by omega, rfl, hst'.out, trivial⟩
            case measure => simp [intOf]
        · have hlow : Hid (b = lowq N d) := by show b = lowq N d; rw [hbr.out]; exact restq_end (by omega)
          clear hbr
          rcases hh with rfl | rfl
          · have hq : rq N d = m0 := by have := rq_plain (Hh0.out rfl); rw [this]; exact Hm0.out
            clear hlow Hh1
            have HR := Lib.hid (rdd_tail neg HN.out Ht.out hdd.out (M := m0) hq.symm)
            have hM53 : m0 ≤ 9007199254740992 := HR.out.1
            have HL := Lib.hid (fun W : World => specLength_any m0 W (by omega))
            clear hq
            go_wp2_with fail
            ((with_reducible refine (HL.out _).mono ?_); rintro e' w' ⟨rfl, rfl⟩)
            by_cases hov : 1024 < (bl m0 : Int) + ((t : Int) - 1074)
            · have hbm : (bl m0 : Int) ≤ 64 := by have := bl_le (n := m0) (k := 64) (by omega); omega
              have hres := Lib.hid (HR.out.2.1 hov)
              clear HR
              generalize bl m0 = y at *
              cases neg
              · go_wp2_with (go_at_call 45; ((with_reducible refine (specInf_pos _).mono ?_)); rintro e' w' ⟨rfl, rfl⟩)
                go_ret
                exact ⟨ret_float hres.out, Below.refl _ _⟩
              · go_wp2_with (go_at_call 45; ((with_reducible refine (specInf_neg _).mono ?_)); rintro e' w' ⟨rfl, rfl⟩)
                go_ret
                exact ⟨ret_float hres.out, Below.refl _ _⟩
            · have hbm : (bl m0 : Int) ≤ 64 := by have := bl_le (n := m0) (k := 64) (by omega); omega
              have hres := HR.out.2.2 (by omega)
              have hV := Lib.hid (value_is neg m0 t (fits_small (by omega)) hres.1 (by have := hres.2.2; omega))
              rw [hres.2.1] at hV
              clear HR hres
              have hbd := build3
              generalize bl m0 = y at *
              go_wp2_with (go_at_call 46; ((with_reducible refine (hV.out _ _ (by omega) (by omega) _).mono ?_)); rintro e' w2 ⟨rfl, hq⟩)
              go_ret
              exact ⟨rfl, hq⟩
          · cases b
            · rcases (show m0 % 2 = 0 ∨ m0 % 2 = 1 by omega) with hpar | hpar
              · have hq : rq N d = m0 := by have := rq_even hlow.out.symm (by rw [Hm0.out]; exact hpar); rw [this]; exact Hm0.out
                have hpi : ((m0 : Int) % 2 == 1) = false := by simp; omega
                clear hlow Hh1 Hh0 hpar
                have HR := Lib.hid (rdd_tail neg HN.out Ht.out hdd.out (M := m0) hq.symm)
                have hM53 : m0 ≤ 9007199254740992 := HR.out.1
                have HL := Lib.hid (fun W : World => specLength_any m0 W (by omega))
                clear hq
                go_wp2_with fail
                ((with_reducible refine (HL.out _).mono ?_); rintro e' w' ⟨rfl, rfl⟩)
                by_cases hov : 1024 < (bl m0 : Int) + ((t : Int) - 1074)
                · have hbm : (bl m0 : Int) ≤ 64 := by have := bl_le (n := m0) (k := 64) (by omega); omega
                  have hres := Lib.hid (HR.out.2.1 hov)
                  clear HR
                  generalize bl m0 = y at *
                  cases neg
                  · go_wp2_with (go_at_call 45; ((with_reducible refine (specInf_pos _).mono ?_)); rintro e' w' ⟨rfl, rfl⟩)
                    go_ret
                    exact ⟨ret_float hres.out, Below.refl _ _⟩
                  · go_wp2_with (go_at_call 45; ((with_reducible refine (specInf_neg _).mono ?_)); rintro e' w' ⟨rfl, rfl⟩)
                    go_ret
                    exact ⟨ret_float hres.out, Below.refl _ _⟩
                · have hbm : (bl m0 : Int) ≤ 64 := by have := bl_le (n := m0) (k := 64) (by omega); omega
                  have hres := HR.out.2.2 (by omega)
                  have hV := Lib.hid (value_is neg m0 t (fits_small (by omega)) hres.1 (by have := hres.2.2; omega))
                  rw [hres.2.1] at hV
                  clear HR hres
                  have hbd := build3
                  generalize bl m0 = y at *
                  go_wp2_with (go_at_call 46; ((with_reducible refine (hV.out _ _ (by omega) (by omega) _).mono ?_)); rintro e' w2 ⟨rfl, hq⟩)
                  go_ret
                  exact ⟨rfl, hq⟩
              · have hq : rq N d = m0 + 1 := by have := rq_up (Hh1.out rfl) (Or.inr (by rw [Hm0.out]; exact hpar)); rw [this, Hm0.out]
                have hpi : ((m0 : Int) % 2 == 1) = true := by simp; omega
                clear hlow Hh1 Hh0 hpar
                have HR := Lib.hid (rdd_tail neg HN.out Ht.out hdd.out (M := (m0 + 1)) hq.symm)
                have hM53 : (m0 + 1) ≤ 9007199254740992 := HR.out.1
                have HL := Lib.hid (fun W : World => specLength_any (m0 + 1) W (by omega))
                clear hq
                go_wp2_with fail
                (rw [show ((m0 : Int) + 1) = (((m0 + 1 : Nat)) : Int) by omega]; (with_reducible refine (HL.out _).mono ?_); rintro e' w' ⟨rfl, rfl⟩)
                by_cases hov : 1024 < (bl (m0 + 1) : Int) + ((t : Int) - 1074)
                · have hbm : (bl (m0 + 1) : Int) ≤ 64 := by have := bl_le (n := (m0 + 1)) (k := 64) (by omega); omega
                  have hres := Lib.hid (HR.out.2.1 hov)
                  clear HR
                  generalize bl (m0 + 1) = y at *
                  cases neg
                  · go_wp2_with (go_at_call 45; ((with_reducible refine (specInf_pos _).mono ?_)); rintro e' w' ⟨rfl, rfl⟩)
                    go_ret
                    exact ⟨ret_float hres.out, Below.refl _ _⟩
                  · go_wp2_with (go_at_call 45; ((with_reducible refine (specInf_neg _).mono ?_)); rintro e' w' ⟨rfl, rfl⟩)
                    go_ret
                    exact ⟨ret_float hres.out, Below.refl _ _⟩
                · have hbm : (bl (m0 + 1) : Int) ≤ 64 := by have := bl_le (n := (m0 + 1)) (k := 64) (by omega); omega
                  have hres := HR.out.2.2 (by omega)
                  have hV := Lib.hid (value_is neg (m0 + 1) t (fits_small (by omega)) hres.1 (by have := hres.2.2; omega))
                  rw [hres.2.1] at hV
                  clear HR hres
                  have hbd := build3
                  generalize bl (m0 + 1) = y at *
                  go_wp2_with (go_at_call 46; ((with_reducible refine (hV.out _ _ (by omega) (by omega) _).mono ?_)); rintro e' w2 ⟨rfl, hq⟩)
                  go_ret
                  exact ⟨rfl, hq⟩
            · have hq : rq N d = m0 + 1 := by have := rq_up (Hh1.out rfl) (Or.inl hlow.out.symm); rw [this, Hm0.out]
              clear hlow Hh1 Hh0
              have HR := Lib.hid (rdd_tail neg HN.out Ht.out hdd.out (M := (m0 + 1)) hq.symm)
              have hM53 : (m0 + 1) ≤ 9007199254740992 := HR.out.1
              have HL := Lib.hid (fun W : World => specLength_any (m0 + 1) W (by omega))
              clear hq
              go_wp2_with fail
              (rw [show ((m0 : Int) + 1) = (((m0 + 1 : Nat)) : Int) by omega]; (with_reducible refine (HL.out _).mono ?_); rintro e' w' ⟨rfl, rfl⟩)
              by_cases hov : 1024 < (bl (m0 + 1) : Int) + ((t : Int) - 1074)
              · have hbm : (bl (m0 + 1) : Int) ≤ 64 := by have := bl_le (n := (m0 + 1)) (k := 64) (by omega); omega
                have hres := Lib.hid (HR.out.2.1 hov)
                clear HR
                generalize bl (m0 + 1) = y at *
                cases neg
                · go_wp2_with (go_at_call 45; ((with_reducible refine (specInf_pos _).mono ?_)); rintro e' w' ⟨rfl, rfl⟩)
                  go_ret
                  exact ⟨ret_float hres.out, Below.refl _ _⟩
                · go_wp2_with (go_at_call 45; ((with_reducible refine (specInf_neg _).mono ?_)); rintro e' w' ⟨rfl, rfl⟩)
                  go_ret
                  exact ⟨ret_float hres.out, Below.refl _ _⟩
              · have hbm : (bl (m0 + 1) : Int) ≤ 64 := by have := bl_le (n := (m0 + 1)) (k := 64) (by omega); omega
                have hres := HR.out.2.2 (by omega)
                have hV := Lib.hid (value_is neg (m0 + 1) t (fits_small (by omega)) hres.1 (by have := hres.2.2; omega))
                rw [hres.2.1] at hV
                clear HR hres
                have hbd := build3
                generalize bl (m0 + 1) = y at *
                go_wp2_with (go_at_call 46; ((with_reducible refine (hV.out _ _ (by omega) (by omega) _).mono ?_)); rintro e' w2 ⟨rfl, hq⟩)
                go_ret
                exact ⟨rfl, hq⟩
    · have hfs := fq_succ N (d + j)
      have hbq := bq_lt N (d + j)
      have HBj := Lib.hid (HB.out (d + j) (by omega))
      rw [show d + ((j + 1 : Nat) : Int) = d + j + 1 by omega] at hm ⊢
      have hm2 : Hid (fq N (d + j) < 2 ^ (53 - j)) := by
        show fq N (d + j) < 2 ^ (53 - j)
        have := hm.out
        rw [hfs, show 53 - j = 53 - (j + 1) + 1 by omega, Nat.pow_succ]; omega
      have hmb : fq N (d + j + 1) < 9007199254740992 := Nat.lt_of_lt_of_le hm.out (Nat.le_trans (pow_le (show 53 - (j + 1) ≤ 53 by omega)) (by decide))
      have hfs' := Lib.hid hfs
      clear hfs hm
      generalize fq N (d + j + 1) = M at *
      generalize bq N (d + j) = b at *
      rw [show (((j + 1 : Nat) : Int)) - 1 = (j : Int) by omega]
      have hpos : (0 : Int) ≤ (j : Int) := by omega
      go_wp2_with fail
      rw [show (t : Int) - 1074 - e + (j : Int) = d + j by have := hdd.out; omega]
      ((with_reducible refine HBj.out.mono ?_); rintro e' w' ⟨rfl, rfl⟩)
      go_wp2
      go_roundw
      case rel => exact ⟨j, by omega, rfl, by rw [hfs'.out]; go_num, hm2.out, trivial⟩
      case measure => simp [intOf]

theorem rounded_any (neg : Bool) (ws : List Nat) (A : Option Addr) (n c N : Nat) (e : Int) (w : World) (h : NatIn w A n ws N) (hb : bl N ≤ 100000) (he1 : -100000 ≤ e) (he2 : e ≤ 100000) :
    Calls Try.prog 36 #[.bool neg, .slice A n c, .int .i64 e] w fun e' w' => e' = .returned (.float .f64 (rdd neg N (e + 1074))) ∧ Below w.heap.size w w' := by
  rcases Nat.eq_zero_or_pos N with h0 | h0
  · subst h0
    refine (rounded_zero neg ws A n c e w h).mono ?_
    rintro e' w' ⟨rfl, rfl⟩
    exact ⟨rfl, Below.refl _ _⟩
  · by_cases hc : e + (bl N : Int) - 53 < -1074
    · exact rounded_low neg ws A n c N e w h h0 hb he1 he2 hc
    · exact rounded_high neg ws A n c N e w h h0 hb he1 he2 (by omega)
end Go.Proofs.Ytbhallblmphlmaa
