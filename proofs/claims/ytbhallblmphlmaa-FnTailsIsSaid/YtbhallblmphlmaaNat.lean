/-
  Contracts of the reference's naturals: high, plus, minus, less.
-/
import Derived.Test.YtbhallblmphlmaaNrw
import Derived.Test.YtbhallblmphlmaaNva
import Derived.BigQuiet
namespace Go.Proofs.Ytbhallblmphlmaa
open Go.RowKit Flt

theorem Try.infoU : (Try.prog.info? 45).map (fun i => (i.zero, i.size, i.bytes)) = some (some (.int .u64 0), 1, 8) := by kernel_rfl
theorem Try.underNat : Try.prog.underlying 50 = some (.slice 45) := by kernel_rfl
/-- a new natural comes back -/
def NatNew (N K : Nat) (w : World) (e : Ending) (w' : World) : Prop :=
  ∃ (ws : List Nat) (A : Option Addr) (c : Nat), e = .returned (.slice A ws.length c) ∧ W32 ws ∧ nv ws = N ∧ ws.length ≤ K ∧ w'.ownsRow w.heap.size 45 1 (.slice A ws.length c) ws.length (ul ws) ∧ Below w.heap.size w w'
theorem ul_append (xs ys : List Nat) : ul (xs ++ ys) = ul xs ++ ul ys := by unfold ul; rw [List.map_append]
theorem own_rdU {w : World} {base c : Nat} {e : TypeId} {A : Option Addr} {ws : List Nat} (h : w.ownsRow base e 1 (.slice A ws.length c) ws.length (ul ws)) : Rd w w.heap.size A (ul ws) := by
  rw [← ul_len ws] at h
  exact Rd.of_own h
theorem NatNew.mk {N K : Nat} {w w' : World} {ws : List Nat} {v : Value} (h1 : W32 ws) (h2 : nv ws = N) (h3 : ws.length ≤ K) (ho : w'.ownsRow w.heap.size 45 1 v (ul ws).length (ul ws)) (hb : Below w.heap.size w w') : NatNew N K w (.returned v) w' := by
  obtain ⟨A, c, rfl, _⟩ := own_slice ho
  rw [ul_len] at ho ⊢
  exact ⟨ws, A, c, rfl, h1, h2, h3, ho, hb⟩
theorem NatIn.below {w w' : World} {A : Option Addr} {n : Nat} {ws : List Nat} {N : Nat} (h : NatIn w A n ws N) (hb : Below w.heap.size w w') : NatIn w' A n ws N :=
  ⟨h.len, (h.reads.below hb).more hb.size, h.words, h.small, h.value⟩
theorem NatIn.qt {w w' : World} {A : Option Addr} {n : Nat} {ws : List Nat} {N : Nat} (h : NatIn w A n ws N) (hq : Qt w w') : NatIn w' A n ws N :=
  ⟨h.len, by have := h.reads.qt hq; rwa [← hq.size] at this, h.words, h.small, h.value⟩
theorem NatIn.word {w : World} {A : Option Addr} {n c : Nat} {ws : List Nat} {N : Nat} (h : NatIn w A n ws N) (i : Nat) (hi : i ≤ 1000000) :
    Calls Try.prog 47 #[.slice A n c, .int .i64 (i : Int)] w fun e w' => e = .returned (.int .u64 ((ws.getD i 0 : Nat) : Int)) ∧ w = w' :=
  word_any ws A n c i w.heap.size w h.len h.reads (by have := h.small; omega) hi

set_option maxHeartbeats 400000 in
theorem high_neg (A : Option Addr) (n c : Nat) (i : Int) (w : World) (hi : i < 0) :
    Calls Try.prog 41 #[.slice A n c, .int .i64 i] w fun e w' => e = .returned (.int .u64 ((0 : Nat) : Int)) ∧ w = w' := by
  go_enter Try.func41, Try.ntmps41
  go_wp2
  go_ret
  exact ⟨rfl, rfl⟩
set_option maxHeartbeats 400000 in
theorem high_pos (w : World) (A : Option Addr) (n c i N : Nat) (ws : List Nat) (h : NatIn w A n ws N) (hi : i ≤ 1000000) :
    Calls Try.prog 41 #[.slice A n c, .int .i64 (i : Int)] w fun e w' => e = .returned (.int .u64 ((ws.getD i 0 : Nat) : Int)) ∧ w = w' := by
  have H := Lib.hid (h.word (c := c) i hi)
  generalize ws.getD i 0 = x at *
  clear h
  go_enter Try.func41, Try.ntmps41
  go_wp2_with (go_at_call 47; ((with_reducible refine H.out.mono ?_)); rintro e w' ⟨rfl, rfl⟩)
  go_ret
  exact ⟨rfl, rfl⟩
theorem high_any (w : World) (A : Option Addr) (n c N : Nat) (ws : List Nat) (h : NatIn w A n ws N) (z : Int) (hz : z ≤ 1000000) :
    Calls Try.prog 41 #[.slice A n c, .int .i64 z] w fun e w' => e = .returned (.int .u64 ((hiw ws z : Nat) : Int)) ∧ w = w' := by
  unfold hiw
  rcases Int.lt_or_le z 0 with h0 | h0
  · rw [if_pos h0]; exact high_neg A n c z w h0
  · rw [if_neg (by omega)]
    obtain ⟨i, rfl⟩ : ∃ i : Nat, z = (i : Int) := ⟨z.toNat, by omega⟩
    exact high_pos w A n c i N ws h (by omega)

theorem and_lowI {t : Nat} {z : Int} (hz : z = (t : Int)) (h : t < 18446744073709551616) : bits .and .u64 z 4294967295 = ((t % 2 ^ 32 : Nat) : Int) := by rw [hz]; exact and_low t h

set_option maxRecDepth 100000 in
set_option maxHeartbeats 1600000 in
theorem plus_any (w : World) (A A' : Option Addr) (n c n' c' N M : Nat) (ws os : List Nat) (h : NatIn w A n ws N) (h' : NatIn w A' n' os M) :
    Calls Try.prog 37 #[.slice A n c, .slice A' n' c'] w (NatNew (N + M) (max n n' + 1) w) := by
  obtain ⟨i0, hi, hz0, hz1, hz2⟩ := info_parts Try.infoU
  have R := Lib.hid h
  have R' := Lib.hid h'
  have hn := h.small
  have hn' := h'.small
  clear h h'
  go_enter Try.func37, Try.ntmps37
  go_wp2
  go_loopw [5, 6, 7] (fun v cc i wr => ∃ (k cy : Nat) (out : List Nat), i = .int .i64 (k : Int) ∧ cc = .int .u64 (cy : Int) ∧ Hid (Pl ws os out k cy) ∧ wr.ownsRow w.heap.size 45 1 v (ul out).length (ul out) ∧ Below w.heap.size w wr) (fun _ _ i _ => max n n' + 2 - (intOf i).toNat)
  case atStart => exact ⟨0, 0, [], rfl, rfl, Pl.start ws os, World.ownsRow_lit w #[] 0 (Nat.le_refl _) (by decide) rfl, (Below.refl _ _).alloc (Nat.le_refl _) _⟩
  case round =>
    obtain ⟨k, cy, out, rfl, rfl, hP, hown, hbel⟩ := hrel
    have hsz := hbel.size
    have hln := R.out.len
    have hln' := R'.out.len
    have hup := hP.out.up
    rw [hln, hln'] at hup
    have hcy := hP.out.c1
    have hol := hP.out.len
    by_cases hcond : k < n ∨ k < n' ∨ 0 < cy
    · have hst := Lib.hid (hP.out.step R.out.words R'.out.words (by rw [hln, hln']; exact hcond))
      have hkm : k ≤ max n n' := by
        rcases Nat.lt_or_ge (max n n') k with g | g
        · have := hP.out.top (by rw [hln]; omega) (by rw [hln']; omega); omega
        · exact g
      have H1 := Lib.hid ((R.out.below hbel).word (c := c) k (by omega))
      have H2 := Lib.hid ((R'.out.below hbel).word (c := c') k (by omega))
      have x1 := R.out.words.getD k
      have x2 := R'.out.words.getD k
      generalize ws.getD k 0 = x at *
      generalize os.getD k 0 = y at *
      have hL : Hid ((ul out).length = k) := by show _ = _; rw [ul_len, hol]
      have hand := and_lowI (t := cy + (x + y)) (z := (cy : Int) + ((x : Int) + (y : Int))) (by omega) (by omega)
      have hsn : Hid (ul (out ++ [(cy + (x + y)) % 2 ^ 32]) = ul out ++ [.int .u64 (((cy + (x + y)) % 2 ^ 32 : Nat) : Int)]) := by show _ = _; rw [ul_append]; rfl
      have hdv : Hid (((cy : Int) + ((x : Int) + (y : Int))) / 4294967296 = (((cy + (x + y)) / 2 ^ 32 : Nat) : Int)) := by show _ = _; omega
      generalize hr : ((cy + (x + y)) % 2 ^ 32 : Nat) = r at *
      clear hP hr hol hln hln'
      rcases (show k < n ∨ (¬ k < n ∧ k < n') ∨ (¬ k < n ∧ ¬ k < n' ∧ 0 < cy) by omega) with g1 | ⟨g1, g2⟩ | ⟨g1, g2, g3⟩
      all_goals
        clear hcond
        go_wp2_with (first | (go_at_call 47; first | (((with_reducible refine H1.out.mono ?_)); rintro e w' ⟨rfl, rfl⟩) | (((with_reducible refine H2.out.mono ?_)); rintro e w' ⟨rfl, rfl⟩)) | (at_builtin; refine wpList_append_own _ rfl _ _ 50 rfl w.heap.size 45 i0 (.int .u64 0) 1 8 Try.underNat hi hz0 hz1 hz2 rfl (by decide) _ _ _ rfl (hown.alloc _) ⟨wr.heap.size, 0, none⟩ 1 1 [.int .u64 (r : Int)] rfl rfl (news_one _ _ _) ?c2 ?c3 ?c4 ?c5 ?_))
        case c2 => intro u hu; simp at hu; subst hu; rfl
        case c3 => rw [hL.out]; unfold maxLen; omega
        case c4 => rw [hL.out]; omega
        case c5 => simp; omega
        intro v' w1 hown' hgrow _
        have hown2 : Hid (w1.ownsRow w.heap.size 45 1 v' (ul (out ++ [r])).length (ul (out ++ [r]))) := by
          show w1.ownsRow _ _ _ _ _ _
          rw [hsn.out, List.length_append]; exact hown'
        have hbel2 : Below w.heap.size w w1 := (hbel.alloc hsz _).grown hgrow (by simp; omega) (fun g hg => (hown.lt g hg).1)
        clear hown' hgrow hown hbel hand
        go_wp2
        go_roundw
        case rel => exact ⟨k + 1, _, out ++ [r], by go_num, by rw [hdv.out], hst.out, hown2.out, hbel2⟩
        case measure => simp [intOf]; omega
    · have hd : nv out = N + M := by
        rw [hP.out.done (by rw [hln]; omega) (by rw [hln']; omega) (by omega), R.out.value, R'.out.value]
      have hN := Lib.hid (NatNew.mk (K := max n n' + 1) hP.out.w32 hd (by rw [hol]; exact hup) hown hbel)
      have g1 : ¬ k < n := by omega
      have g2 : ¬ k < n' := by omega
      have g3 : cy = 0 := by omega
      subst g3
      clear hd hP hown hbel hol hln hln' hcond hup
      go_wp2
      go_ret
      exact hN.out

theorem sub_low {x y b : Nat} {z : Int} (hz : z = (x : Int) + 4294967296 - (y : Int) - (b : Int)) (hx : x < 2 ^ 32) (hy : y < 2 ^ 32) (hb : b ≤ 1) : z = ((x + 2 ^ 32 - y - b : Nat) : Int) := by rw [hz]; omega

set_option maxRecDepth 100000 in
set_option maxHeartbeats 1600000 in
theorem minus_any (w : World) (A A' : Option Addr) (n c n' c' N M : Nat) (ws os : List Nat) (h : NatIn w A n ws N) (h' : NatIn w A' n' os M) (hle : M ≤ N) :
    Calls Try.prog 39 #[.slice A n c, .slice A' n' c'] w (NatNew (N - M) n w) := by
  obtain ⟨i0, hi, hz0, hz1, hz2⟩ := info_parts Try.infoU
  have R := Lib.hid h
  have R' := Lib.hid h'
  have hn := h.small
  have hn' := h'.small
  clear h h'
  go_enter Try.func39, Try.ntmps39
  go_wp2
  go_loopw [5, 6, 7, 8, 12] (fun v cc _ _ i wr => ∃ (k b : Nat) (out : List Nat), k ≤ n ∧ i = .int .i64 (k : Int) ∧ cc = .int .u64 (b : Int) ∧ Hid (Mi ws os out k b) ∧ wr.ownsRow w.heap.size 45 1 v (ul out).length (ul out) ∧ Below w.heap.size w wr) (fun _ _ _ _ i _ => n - (intOf i).toNat)
  case atStart => exact ⟨0, 0, [], Nat.zero_le _, rfl, rfl, Mi.start ws os, World.ownsRow_lit w #[] 0 (Nat.le_refl _) (by decide) rfl, (Below.refl _ _).alloc (Nat.le_refl _) _⟩
  case round =>
    obtain ⟨k, b, out, hk, rfl, rfl, hP, hown, hbel⟩ := hrel
    have hsz := hbel.size
    have hln := R.out.len
    have hb1 := hP.out.b1
    have hol := hP.out.len
    by_cases hlt : k < n
    · have hst := Lib.hid (hP.out.step R.out.words R'.out.words)
      have H2 := Lib.hid (fun (W : World) (q : Qt wr W) => ((R'.out.below hbel).qt q).word (c := c') k (by omega))
      obtain ⟨ad, e1, _, c1⟩ := (R.out.below hbel).reads.ul (k := k) (by rw [hln]; exact hlt)
      cases e1
      have x1 := R.out.words.getD k
      have x2 := R'.out.words.getD k
      generalize ws.getD k 0 = x at *
      generalize os.getD k 0 = y at *
      have hL : Hid ((ul out).length = k) := by show _ = _; rw [ul_len, hol]
      obtain ⟨d, hd⟩ : ∃ d, x + 2 ^ 32 - y - b = d := ⟨_, rfl⟩
      have hd1 : d < 8589934592 := by omega
      have wr1 : IntKind.u64.wrap ((x : Int) + 4294967296) = (x : Int) + 4294967296 := IntWalk.u64_in _ (by omega)
      have wr2 : IntKind.u64.wrap ((x : Int) + 4294967296 - (y : Int)) = (x : Int) + 4294967296 - (y : Int) := IntWalk.u64_in _ (by omega)
      have wr3 : IntKind.u64.wrap ((x : Int) + 4294967296 - (y : Int) - (b : Int)) = (d : Int) := by rw [IntWalk.u64_in _ (by omega)]; omega
      have hand := and_low d (by omega)
      rw [hd] at hst
      have hsn : Hid (ul (out ++ [d % 2 ^ 32]) = ul out ++ [.int .u64 ((d % 2 ^ 32 : Nat) : Int)]) := by show _ = _; rw [ul_append]; rfl
      have hdv : Hid (1 - (d : Int) / 4294967296 = ((1 - d / 2 ^ 32 : Nat) : Int)) := by show _ = _; omega
      have hd2 : (d : Int) / 4294967296 ≤ 1 := by omega
      have hd3 : 0 ≤ (d : Int) / 4294967296 := by omega
      generalize hr : d % 2 ^ 32 = r at *
      clear hP hr hol hln hd x1 x2
      go_wp2_with fail
      go_quiet ((go_at_call 47; exact quiet_w (H2.out _ ((Qt.refl wr).drewN _))))
      clear wr1 wr2 wr3
      have hqW : Qt wr (wr.drewN nq) := (Qt.refl wr).drewN nq
      have hown1 := hqW.own hown
      have hbel1 := hbel.trans (hqW.below _)
      have hsz1 := hbel1.size
      clear hown hbel hqW c1 H2
      generalize wr.drewN nq = W at *
      go_wp2_with (at_builtin; refine wpList_append_own _ rfl _ _ 50 rfl w.heap.size 45 i0 (.int .u64 0) 1 8 Try.underNat hi hz0 hz1 hz2 rfl (by decide) _ _ _ rfl (hown1.alloc _) ⟨W.heap.size, 0, none⟩ 1 1 [.int .u64 (r : Int)] rfl rfl (news_one _ _ _) ?c2 ?c3 ?c4 ?c5 ?_)
      case c2 => intro u hu; simp at hu; subst hu; rfl
      case c3 => rw [hL.out]; unfold maxLen; omega
      case c4 => rw [hL.out]; omega
      case c5 => simp; omega
      intro v' w1 hown' hgrow _
      have hown2 : Hid (w1.ownsRow w.heap.size 45 1 v' (ul (out ++ [r])).length (ul (out ++ [r]))) := by
        show w1.ownsRow _ _ _ _ _ _
        rw [hsn.out, List.length_append]; exact hown'
      have hbel2 : Below w.heap.size w w1 := (hbel1.alloc hsz1 _).grown hgrow (by simp; omega) (fun g hg => (hown1.lt g hg).1)
      clear hown' hgrow hown1 hbel1 hand
      go_wp2
      go_roundw
      case rel => exact ⟨k + 1, _, out ++ [r], by omega, by go_num, by rw [hdv.out], hst.out, hown2.out, hbel2⟩
      case measure => simp [intOf]; omega
    · have hd : nv out = N - M := by
        rw [hP.out.done (by rw [hln]; omega) (by rw [R.out.value, R'.out.value]; exact hle), R.out.value, R'.out.value]
      have hN := Lib.hid (NatNew.mk (K := n) hP.out.w32 hd (by rw [hol]; exact hk) hown hbel)
      clear hd hP hown hbel hol hln
      go_wp2
      go_ret
      exact hN.out

set_option maxRecDepth 100000 in
set_option maxHeartbeats 1600000 in
theorem less_any (w : World) (A A' : Option Addr) (n c n' c' N M : Nat) (ws os : List Nat) (h : NatIn w A n ws N) (h' : NatIn w A' n' os M) :
    Calls Try.prog 38 #[.slice A n c, .slice A' n' c'] w fun e w' => e = .returned (.bool (decide (N < M))) ∧ w = w' := by
  have R := Lib.hid h
  have R' := Lib.hid h'
  have hn := h.small
  have hn' := h'.small
  clear h h'
  obtain ⟨T, hT⟩ : ∃ T, max n n' = T := ⟨_, rfl⟩
  have hstart : Hid (nv (ws.drop T) = nv (os.drop T)) := by
    show _ = _
    rw [nv_past (by rw [R.out.len]; omega), nv_past (by rw [R'.out.len]; omega)]
  rcases (show (n' < n ∧ T = n) ∨ (n < n' ∧ T = n') ∨ (n' = n ∧ T = n) by omega) with ⟨hmm, rfl⟩ | ⟨hmm, rfl⟩ | ⟨rfl, rfl⟩
  · clear hT
    go_enter Try.func38, Try.ntmps38
    go_wp2
    go_loopw [5] (fun i wr => ∃ k : Nat, k ≤ T ∧ i = .int .i64 ((k : Int) - 1) ∧ Hid (nv (ws.drop k) = nv (os.drop k)) ∧ w = wr) (fun i _ => ((intOf i) + 1).toNat)
    case atStart => exact ⟨T, Nat.le_refl _, rfl, hstart, rfl⟩
    case round =>
      obtain ⟨k, hk, rfl, hv, rfl⟩ := hrel
      cases k with
      | zero =>
        have hres : Hid (decide (N < M) = false) := by
          have := hv.out
          rw [List.drop_zero, List.drop_zero, R.out.value, R'.out.value] at this
          exact decide_eq_false (by omega)
        go_wp2
        go_ret
        exact ⟨by rw [hres.out]; rfl, rfl⟩
      | succ k =>
        have hk1 : (((k + 1 : Nat) : Int) - 1) = (k : Int) := by omega
        rw [hk1]
        have H1 := Lib.hid (R.out.word (c := c) k (by omega))
        have H2 := Lib.hid (R'.out.word (c := c') k (by omega))
        have hla := Lib.hid (fun h => less_at R.out.words R'.out.words hv.out h)
        have hle := Lib.hid (fun h => less_eq hv.out h)
        rw [R.out.value, R'.out.value] at hla
        generalize ws.getD k 0 = x at *
        generalize os.getD k 0 = y at *
        clear hv hk1
        by_cases hxy : x = y
        · have hnx := Lib.hid (hle.out hxy)
          subst hxy
          clear hla hle
          go_wp2_with (go_at_call 47; first | (((with_reducible refine H1.out.mono ?_)); rintro e w' ⟨rfl, rfl⟩) | (((with_reducible refine H2.out.mono ?_)); rintro e w' ⟨rfl, rfl⟩))
          go_roundw
          case rel => exact ⟨k, by omega, by go_num, hnx.out, by trivial⟩
          case measure => simp [intOf]
        · have hres := Lib.hid (hla.out hxy)
          have hne : ((x : Int) != (y : Int)) = true := by simp; omega
          have hdd : Hid (decide ((x : Int) < (y : Int)) = decide (x < y)) := by show _ = _; rw [decide_eq_decide]; omega
          clear hla hle hxy
          go_wp2_with (go_at_call 47; first | (((with_reducible refine H1.out.mono ?_)); rintro e w' ⟨rfl, rfl⟩) | (((with_reducible refine H2.out.mono ?_)); rintro e w' ⟨rfl, rfl⟩))
          go_ret
          refine ⟨?_, rfl⟩
          rw [← hres.out]
          first | rfl | (rw [hdd.out]) | simp
  · clear hT
    go_enter Try.func38, Try.ntmps38
    go_wp2
    go_loopw [5] (fun i wr => ∃ k : Nat, k ≤ T ∧ i = .int .i64 ((k : Int) - 1) ∧ Hid (nv (ws.drop k) = nv (os.drop k)) ∧ w = wr) (fun i _ => ((intOf i) + 1).toNat)
    case atStart => exact ⟨T, Nat.le_refl _, rfl, hstart, rfl⟩
    case round =>
      obtain ⟨k, hk, rfl, hv, rfl⟩ := hrel
      cases k with
      | zero =>
        have hres : Hid (decide (N < M) = false) := by
          have := hv.out
          rw [List.drop_zero, List.drop_zero, R.out.value, R'.out.value] at this
          exact decide_eq_false (by omega)
        go_wp2
        go_ret
        exact ⟨by rw [hres.out]; rfl, rfl⟩
      | succ k =>
        have hk1 : (((k + 1 : Nat) : Int) - 1) = (k : Int) := by omega
        rw [hk1]
        have H1 := Lib.hid (R.out.word (c := c) k (by omega))
        have H2 := Lib.hid (R'.out.word (c := c') k (by omega))
        have hla := Lib.hid (fun h => less_at R.out.words R'.out.words hv.out h)
        have hle := Lib.hid (fun h => less_eq hv.out h)
        rw [R.out.value, R'.out.value] at hla
        generalize ws.getD k 0 = x at *
        generalize os.getD k 0 = y at *
        clear hv hk1
        by_cases hxy : x = y
        · have hnx := Lib.hid (hle.out hxy)
          subst hxy
          clear hla hle
          go_wp2_with (go_at_call 47; first | (((with_reducible refine H1.out.mono ?_)); rintro e w' ⟨rfl, rfl⟩) | (((with_reducible refine H2.out.mono ?_)); rintro e w' ⟨rfl, rfl⟩))
          go_roundw
          case rel => exact ⟨k, by omega, by go_num, hnx.out, by trivial⟩
          case measure => simp [intOf]
        · have hres := Lib.hid (hla.out hxy)
          have hne : ((x : Int) != (y : Int)) = true := by simp; omega
          have hdd : Hid (decide ((x : Int) < (y : Int)) = decide (x < y)) := by show _ = _; rw [decide_eq_decide]; omega
          clear hla hle hxy
          go_wp2_with (go_at_call 47; first | (((with_reducible refine H1.out.mono ?_)); rintro e w' ⟨rfl, rfl⟩) | (((with_reducible refine H2.out.mono ?_)); rintro e w' ⟨rfl, rfl⟩))
          go_ret
          refine ⟨?_, rfl⟩
          rw [← hres.out]
          first | rfl | (rw [hdd.out]) | simp
  · clear hT
    go_enter Try.func38, Try.ntmps38
    go_wp2
    go_loopw [5] (fun i wr => ∃ k : Nat, k ≤ T ∧ i = .int .i64 ((k : Int) - 1) ∧ Hid (nv (ws.drop k) = nv (os.drop k)) ∧ w = wr) (fun i _ => ((intOf i) + 1).toNat)
    case atStart => exact ⟨T, Nat.le_refl _, rfl, hstart, rfl⟩
    case round =>
      obtain ⟨k, hk, rfl, hv, rfl⟩ := hrel
      cases k with
      | zero =>
        have hres : Hid (decide (N < M) = false) := by
          have := hv.out
          rw [List.drop_zero, List.drop_zero, R.out.value, R'.out.value] at this
          exact decide_eq_false (by omega)
        go_wp2
        go_ret
        exact ⟨by rw [hres.out]; rfl, rfl⟩
      | succ k =>
        have hk1 : (((k + 1 : Nat) : Int) - 1) = (k : Int) := by omega
        rw [hk1]
        have H1 := Lib.hid (R.out.word (c := c) k (by omega))
        have H2 := Lib.hid (R'.out.word (c := c') k (by omega))
        have hla := Lib.hid (fun h => less_at R.out.words R'.out.words hv.out h)
        have hle := Lib.hid (fun h => less_eq hv.out h)
        rw [R.out.value, R'.out.value] at hla
        generalize ws.getD k 0 = x at *
        generalize os.getD k 0 = y at *
        clear hv hk1
        by_cases hxy : x = y
        · have hnx := Lib.hid (hle.out hxy)
          subst hxy
          clear hla hle
          go_wp2_with (go_at_call 47; first | (((with_reducible refine H1.out.mono ?_)); rintro e w' ⟨rfl, rfl⟩) | (((with_reducible refine H2.out.mono ?_)); rintro e w' ⟨rfl, rfl⟩))
          go_roundw
          case rel => exact ⟨k, by omega, by go_num, hnx.out, by trivial⟩
          case measure => simp [intOf]
        · have hres := Lib.hid (hla.out hxy)
          have hne : ((x : Int) != (y : Int)) = true := by simp; omega
          have hdd : Hid (decide ((x : Int) < (y : Int)) = decide (x < y)) := by show _ = _; rw [decide_eq_decide]; omega
          clear hla hle hxy
          go_wp2_with (go_at_call 47; first | (((with_reducible refine H1.out.mono ?_)); rintro e w' ⟨rfl, rfl⟩) | (((with_reducible refine H2.out.mono ?_)); rintro e w' ⟨rfl, rfl⟩))
          go_ret
          refine ⟨?_, rfl⟩
          rw [← hres.out]
          first | rfl | (rw [hdd.out]) | simp
end Go.Proofs.Ytbhallblmphlmaa
