/-
  Contracts of spec.Horner, spec.Dot and spec.Tails, on values.
-/
import Derived.Test.YtbhallblmphlmaaSpF
import Derived.Test.YtbhallblmphlmaaTls
namespace Go.Proofs.Ytbhallblmphlmaa
open Go.RowKit Flt

set_option maxHeartbeats 800000 in
theorem specHorner_any (s x : Nat) (xs : List Nat) (A : Option Addr) (c n B : Nat) (w : World) (hs : s < 2 ^ 64) (hxw : x < 2 ^ 64) (hws : ∀ b ∈ xs, b < 2 ^ 64) (hx : xs.length = n) (hn : n ≤ 9223372036854775807) (hB : B ≤ w.heap.size) (h1 : Rd w B A (fl xs)) :
    Calls Try.prog 18 #[.float .f64 s, .slice A n c, .float .f64 x] w (FsGives (horv (vl x) (vl s) (xs.map vl)) w) := by
  have hx' := Lib.hid hx
  have HW := Lib.hid hws
  clear hx hws
  go_enter Try.func18, Try.ntmps18
  go_wp2
  go_loopw [0, 8, 11] (fun z _ i wr => ∃ k b : Nat, k ≤ n ∧ i = .int .i64 k ∧ z = .float .f64 b ∧ b < 2 ^ 64 ∧ Hid (vl b = horv (vl x) (vl s) ((xs.take k).map vl)) ∧ Below w.heap.size w wr) (fun _ _ i _ => n - (intOf i).toNat)
  case atStart => exact ⟨0, s, Nat.zero_le _, rfl, rfl, hs, rfl, Below.refl _ _⟩
  case round =>
    obtain ⟨k, b, hk, rfl, rfl, hb, hv, hbel⟩ := hrel
    by_cases hlt : k < n
    · obtain ⟨ad, e1, _, c1⟩ := (h1.below' hbel hB).fl (k := k) (by rw [hx'.out]; exact hlt)
      cases e1
      have hst := Lib.hid (horv_snoc (vl x) (vl s) ((xs.take k).map vl) (vl (xs.getD k 0)))
      rw [← vl_take_snoc (by rw [hx'.out]; exact hlt), ← hv.out] at hst
      have hyw := HW.out _ (getD_mem xs k 0 (by rw [hx'.out]; exact hlt))
      generalize xs.getD k 0 = y at *
      have HF := Lib.hid (specFMA_any b x y wr hb hxw hyw)
      rw [← hst.out] at HF
      clear hst hv
      go_wp2_with fail
      ((with_reducible refine HF.out.mono ?_); rintro e w2 ⟨t, rfl, vt, lt, bt⟩)
      have VT := Lib.hid vt
      have hbel2 := hbel.trans (bt.mono hbel.size)
      clear vt HF hbel bt c1
      go_wp2
      go_roundw
      case rel => exact ⟨k + 1, t, by omega, by go_num, rfl, lt, VT.out, hbel2⟩
      case measure => simp [intOf]; omega
    · have hkm : Hid (vl b = horv (vl x) (vl s) (xs.map vl)) := by
        have := hv.out
        rw [List.take_of_length_le (by rw [hx'.out]; omega)] at this
        exact this
      go_wp2
      go_ret
      exact ⟨b, rfl, hkm.out, hb, hbel⟩

set_option maxHeartbeats 1600000 in
theorem specDot_any (s : Nat) (xs ys : List Nat) (A A' : Option Addr) (c c' n m B : Nat) (w : World) (hs : s < 2 ^ 64) (hws : ∀ b ∈ xs, b < 2 ^ 64) (hwt : ∀ b ∈ ys, b < 2 ^ 64) (hx : xs.length = n) (hy : ys.length = m) (hn : n ≤ 9223372036854775807) (_hm : m ≤ 9223372036854775807) (hB : B ≤ w.heap.size)
    (h1 : Rd w B A (fl xs)) (h2 : Rd w B A' (fl ys)) :
    Calls Try.prog 25 #[.float .f64 s, .slice A n c, .slice A' m c'] w (FsGives (dotv (vl s) (prs xs ys)) w) := by
  have hx' := Lib.hid hx
  have hy' := Lib.hid hy
  have HW := Lib.hid hws
  have HW' := Lib.hid hwt
  clear hx hy hws hwt
  go_enter Try.func25, Try.ntmps25
  go_wp2
  go_loopw [0, 7] (fun z i wr => ∃ k b : Nat, k ≤ n ∧ i = .int .i64 k ∧ z = .float .f64 b ∧ b < 2 ^ 64 ∧ Hid (vl b = dotv (vl s) ((prs xs ys).take k)) ∧ Below w.heap.size w wr) (fun _ i _ => n - (intOf i).toNat)
  case atStart => exact ⟨0, s, Nat.zero_le _, rfl, rfl, hs, rfl, Below.refl _ _⟩
  case round =>
    obtain ⟨k, b, hk, rfl, rfl, hb, hv, hbel⟩ := hrel
    by_cases hlt : k < n
    · by_cases hlm : k < m
      · obtain ⟨ad, e1, a1, c1⟩ := (h1.below' hbel hB).fl (k := k) (by rw [hx'.out]; exact hlt)
        cases e1
        obtain ⟨ad', e2, a2, c2⟩ := (h2.below' hbel hB).fl (k := k) (by rw [hy'.out]; exact hlm)
        cases e2
        have hst := Lib.hid (dotv_snoc (vl s) ((prs xs ys).take k) (vl (xs.getD k 0), vl (ys.getD k 0)))
        rw [← prs_snoc (by rw [hx'.out]; exact hlt) (by rw [hy'.out]; exact hlm), ← hv.out] at hst
        have hxw := HW.out _ (getD_mem xs k 0 (by rw [hx'.out]; exact hlt))
        have hyw := HW'.out _ (getD_mem ys k 0 (by rw [hy'.out]; exact hlm))
        generalize xs.getD k 0 = x at *
        generalize ys.getD k 0 = y at *
        have q1 : Below wr.heap.size wr wr.drew := (Qt.refl wr).drew.below _
        have HF := Lib.hid (specFMA_any x y b wr.drew hxw hyw hb)
        have hbel1 := hbel.trans (q1.mono hbel.size)
        have hsz := hbel.size
        have d1 : wr.drew.cell? (ad.add k) = some (.float .f64 x) := c1
        have d2 : wr.drew.cell? (ad'.add k) = some (.float .f64 y) := c2
        have p1 : (ad.add k).block < wr.drew.heap.size := by rw [blk_add]; show _ < wr.heap.size; omega
        have p2 : (ad'.add k).block < wr.drew.heap.size := by rw [blk_add]; show _ < wr.heap.size; omega
        have i1 : (0 : Int) ≤ (k : Int) := by omega
        have i2 : (k : Int) < (n : Int) := by omega
        have i3 : (k : Int) < (m : Int) := by omega
        clear hv c1 c2 hbel
        go_wp2_with fail
        go_region_held3 (fun w' => w'.cell? (ad.add k) = some (.float .f64 x) ∧ w'.cell? (ad'.add k) = some (.float .f64 y)) (first | exact ⟨d1, d2⟩ | exact ⟨z1, z2⟩) (first | (go_at_call 31; (with_reducible refine HF.out.mono ?_); rintro e w2 ⟨t, rfl, vt, lt, bt⟩; have z1 := (bt.cell p1).trans d1; have z2 := (bt.cell p2).trans d2))
        have VT : Hid (vl t = dotv (vl s) ((prs xs ys).take (k + 1))) := by show _ = _; rw [hst.out, vt]
        have hbel2 := hbel1.trans (bt.mono hbel1.size)
        clear vt HF bt d1 d2 z1 z2 hst i1 i2 i3
        go_wp2
        go_roundw
        case rel => exact ⟨k + 1, t, by omega, by go_num, rfl, lt, VT.out, hbel2⟩
        case measure => simp [intOf]; omega
      · have hkm : Hid (vl b = dotv (vl s) (prs xs ys)) := by
          have := hv.out
          rw [List.take_of_length_le (by rw [prs_len, hx'.out, hy'.out]; omega)] at this
          exact this
        go_wp2
        go_ret
        exact ⟨b, rfl, hkm.out, hb, hbel⟩
    · have hkm : Hid (vl b = dotv (vl s) (prs xs ys)) := by
        have := hv.out
        rw [List.take_of_length_le (by rw [prs_len, hx'.out, hy'.out]; omega)] at this
        exact this
      go_wp2
      go_ret
      exact ⟨b, rfl, hkm.out, hb, hbel⟩

set_option maxRecDepth 100000 in
set_option maxHeartbeats 1600000 in
theorem specTails_any (x : Nat) (xs : List Nat) (A : Option Addr) (c n B : Nat) (w : World) (hs : x < 2 ^ 64) (hws : ∀ b ∈ xs, b < 2 ^ 64) (hx : xs.length = n) (hn : n * 8 ≤ 140737488351232) (hB : B ≤ w.heap.size) (h1 : Rd w B A (fl xs)) :
    Calls Try.prog 28 #[.float .f64 x, .slice A n c] w (TlGives (vl x) (xs.map vl) w) := by
  obtain ⟨i0, hi, hz0, hz1, hz2⟩ := info_parts Try.infoF
  have hx' := Lib.hid hx
  have HW := Lib.hid hws
  have hng := neg_wordT
  clear hx hws
  go_enter Try.func28, Try.ntmps28
  go_wp2
  go_loopw [0, 6, 8, 9, 13] (fun z v _ _ i wr => ∃ (k b : Nat) (L : List Nat), k ≤ n ∧ i = .int .i64 k ∧ z = .float .f64 b ∧ b < 2 ^ 64 ∧ Hid (vl b = tlP (vl x) ((xs.take k).map vl)) ∧ Hid (L.map vl = tlL (vl x) ((xs.take k).map vl)) ∧ Hid (∀ z ∈ L, z < 2 ^ 64) ∧ wr.ownsRow w.heap.size 22 1 v (fl L).length (fl L) ∧ Below w.heap.size w wr) (fun _ _ _ _ i _ => n - (intOf i).toNat)
  case atStart => exact ⟨0, x, [], Nat.zero_le _, rfl, rfl, hs, rfl, rfl, (fun z h => by cases h), World.ownsRow_lit w #[] 0 (Nat.le_refl _) (by decide) rfl, (Below.refl _ _).alloc (Nat.le_refl _) _⟩
  case round =>
    obtain ⟨k, b, L, hk, rfl, rfl, hb, hv, hL, hw, hown, hbel⟩ := hrel
    have hsz := hbel.size
    have hLk : Hid ((fl L).length = k) := by
      have := congrArg List.length hL.out
      rw [List.length_map, tlL_len, List.length_map, List.length_take, hx'.out] at this
      show _ = _
      rw [fl_len, this]; omega
    by_cases hlt : k < n
    · obtain ⟨ad, e1, _, c1⟩ := (h1.below' hbel hB).fl (k := k) (by rw [hx'.out]; exact hlt)
      cases e1
      have hst := Lib.hid (vl_take_snoc (xs := xs) (k := k) (by rw [hx'.out]; exact hlt))
      have hyw := HW.out _ (getD_mem xs k 0 (by rw [hx'.out]; exact hlt))
      generalize xs.getD k 0 = y at *
      obtain ⟨g, g', hrun, hans⟩ := mul_ans b y
      have m1 := hrun wr
      have mv := hans.val wr
      have ml := hans.lt wr
      have mq := hans.qt wr
      clear hrun hans
      generalize g wr = p at *
      generalize g' wr = wp at *
      have HF := Lib.hid (specFMA_any b y (Op.negFloat .f64 p) wp hb hyw (neg_lt p ml))
      go_wp2_with fail
      ((with_reducible refine HF.out.mono ?_); rintro e wt ⟨t, rfl, fv', fl', fb⟩)
      obtain ⟨s1, s2⟩ := tl_step hv.out hL.out mv ml fv'
      rw [← hst.out] at s1 s2
      have S1 := Lib.hid s1
      have S2 := Lib.hid s2
      have S3 := Lib.hid (mem_snoc hw.out fl')
      have hown1 := own_below (mq.own hown) fb
      have hbel0 := hbel.trans (mq.below _)
      have hbel1 := hbel0.trans (fb.mono hbel0.size)
      have hsz1 := hbel1.size
      clear s1 s2 mv fv' hst hv hL hw mq fb hown hbel hbel0 HF
      go_wp2_with (at_builtin; refine wpList_append_own _ rfl _ _ 23 rfl w.heap.size 22 i0 (.float .f64 0) 1 8 Try.underlying23 hi hz0 hz1 hz2 rfl (by decide) _ _ _ rfl (hown1.alloc _) ⟨wt.heap.size, 0, none⟩ 1 1 [.float .f64 t] rfl rfl (news_one _ _ _) ?c2 ?c3 ?c4 ?c5 ?_)
      case c2 => intro u hu; simp at hu; subst hu; rfl
      case c3 => rw [hLk.out]; unfold maxLen; omega
      case c4 => rw [hLk.out]; omega
      case c5 => simp; omega
      intro v' w3 hown' hgrow _
      have hbel3 : Below w.heap.size w w3 := (hbel1.alloc hsz1 _).grown hgrow (by simp; omega) (fun g hg => (hown1.lt g hg).1)
      have hown2 : Hid (w3.ownsRow w.heap.size 22 1 v' (fl (L ++ [t])).length (fl (L ++ [t]))) := by
        show w3.ownsRow _ _ _ _ _ _
        rw [fl_append, List.length_append]; exact hown'
      clear hown' hgrow hown1 hbel1 c1
      go_wp2
      go_roundw
      case rel => exact ⟨k + 1, p, L ++ [t], by omega, by go_num, rfl, ml, S1, S2, S3, hown2.out, hbel3⟩
      case measure => simp [intOf]; omega
    · have hkm : xs.take k = xs := List.take_of_length_le (by rw [hx'.out]; omega)
      rw [hkm] at hv hL
      obtain ⟨A3, c3, rfl, _⟩ := own_slice hown
      rw [fl_len] at hown ⊢
      have HO := Lib.hid hown
      clear hown hkm
      go_wp2
      go_ret2
      exact ⟨b, L, A3, c3, rfl, hv.out, hb, hL.out, hw.out, HO.out, hbel⟩
end Go.Proofs.Ytbhallblmphlmaa
