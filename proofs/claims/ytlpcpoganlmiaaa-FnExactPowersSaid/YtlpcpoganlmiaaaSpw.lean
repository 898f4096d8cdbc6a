/-
  The contract of spec.Powers.
-/
import Derived.Test.YtlpcpoganlmiaaaPow
import Derived.Test.YtlpcpoganlmiaaaSdg
namespace Go.Proofs.Ytlpcpoganlmiaaa
open Go.RowKit Flt

/-- exponents with another unit -/
def ppI (ee : Int) (D : List Nat) : List Int := D.map fun (j : Nat) => (j : Int) + ee
theorem ppI_len (ee : Int) (D : List Nat) : (ppI ee D).length = D.length := by simp [ppI]
theorem ppI_snoc (ee : Int) (D : List Nat) (j : Nat) : il (ppI ee (D ++ [j])) = il (ppI ee D) ++ [Value.int .i64 ((j : Int) + ee)] := by
  unfold ppI; rw [List.map_append, il_append]; rfl
theorem dsc_len (m : Nat) : ∀ K, (dsc m K).length ≤ K := by
  intro K
  induction K with
  | zero => exact Nat.le_refl _
  | succ K ih =>
    unfold dsc
    split
    · rw [List.length_cons]; omega
    · omega
/-- the parts of a word, as Powers reads them -/
structure PE (x m : Nat) (ee : Int) : Prop where
  lt : m < 2 ^ 53
  e1 : -1074 ≤ ee
  e2 : ee ≤ 3000
  pw : pwI (pws (rv (rg x))) = ppI ee (dsc m 53)
theorem partsOf_pow (x : Nat) (w : World) (hx : x < 2 ^ 64) (hf : rg x < INF) :
    Calls Try.prog 42 #[.float .f64 x] w fun e w' => ∃ (neg : Bool) (m : Nat) (ee : Int), PE x m ee ∧ e = .returned (.agg #[.bool neg, .int .u64 (m : Int), .int .i64 ee]) ∧ Below w.heap.size w w' := by
  rcases Nat.eq_zero_or_pos (rg x) with h0 | h0
  · refine (partsOf_zero x w hx h0).mono ?_
    rintro e w' ⟨rfl, hb⟩
    refine ⟨false, 0, 0, ⟨by decide, by decide, by decide, ?_⟩, rfl, hb⟩
    rw [h0, rv_zero, ← pws_dsc 53 0 (by decide), pws_zero]; rfl
  · refine (partsOf_pos x w hx hf h0).mono ?_
    rintro e w' ⟨m, E, hP, hE, rfl, hb⟩
    refine ⟨sg x, m, (E : Int) - 1074, ⟨hP.lt, by omega, by omega, ?_⟩, rfl, hb⟩
    rw [← hP.eq, pws_mul, ← pws_dsc 53 m hP.lt]
    unfold pwI ppI
    rw [List.map_map]
    apply List.map_congr_left
    intro j _
    show (((j + E : Nat)) : Int) - 1074 = _
    omega

set_option maxHeartbeats 1600000 in
theorem specPowers_fin (x : Nat) (w : World) (hx : x < 2 ^ 64) (hf : rg x < INF) :
    Calls Try.prog 25 #[.float .f64 x] w (NewRow 3 w.heap.size w (il (pwI (pws (rv (rg x)))))) := by
  obtain ⟨i0, hi, hz0, hz1, hz2⟩ := info_parts Try.infoI
  have H := Lib.hid (fun W : World => specFinite_yes x W hf)
  have HP := Lib.hid (fun W : World => partsOf_pow x W hx hf)
  clear hx hf
  go_enter Try.func25, Try.ntmps25
  go_wp2_with (go_at_call 30; ((with_reducible refine (H.out _).mono ?_)); rintro e' w1 ⟨rfl, rfl⟩)
  refine (HP.out _).mono ?_
  rintro e' w1 ⟨neg, m, ee, hP, rfl, hbel1⟩
  have hbel := ((Below.refl w.heap.size w).alloc (Nat.le_refl _) _).trans (hbel1.mono (by simp))
  have hown0 := own_below (World.ownsRow_lit (e := 3) (size := 1) w #[] 0 (Nat.le_refl _) (by decide) rfl) hbel1
  have hgt : w.heap.size < w1.heap.size := by have := hbel1.size; simp at this; omega
  have hm := hP.lt
  have he1 := hP.e1
  have he2 := hP.e2
  have hpw := Lib.hid hP.pw
  clear HP hP H hbel1
  go_wp2_with fail
  obtain ⟨W, hW⟩ : ∃ W, W = w1.alloc (.cells #[.bool neg, .int .u64 (m : Int), .int .i64 ee] 53) := ⟨_, rfl⟩
  have q1 : W.cell? ⟨w1.heap.size, 1, none⟩ = some (.int .u64 (m : Int)) := by rw [hW]; simp
  have q2 : W.cell? ⟨w1.heap.size, 2, none⟩ = some (.int .i64 ee) := by rw [hW]; simp
  have hbW : Below w.heap.size w W := by rw [hW]; exact hbel.alloc hbel.size _
  have hownW : W.ownsRow w.heap.size 3 1 (.slice (some ⟨w.heap.size, 0, none⟩) 0 0) 0 [] := by rw [hW]; exact hown0.alloc _
  rw [← hW]
  clear hW hown0 hbel
  generalize hg : w1.heap.size = g at *
  clear hg
  go_loopw [3, 5] (fun o i wr => ∃ (k : Nat) (D : List Nat), k ≤ 53 ∧ i = .int .i64 ((k : Int) - 1) ∧ Hid (D ++ dsc m k = dsc m 53) ∧ D.length + k ≤ 53 ∧ wr.ownsRow w.heap.size 3 1 o (il (ppI ee D)).length (il (ppI ee D)) ∧ Hid (o.ownBlock ≠ some g) ∧ Below w.heap.size w wr ∧ wr.cell? ⟨g, 1, none⟩ = some (.int .u64 (m : Int)) ∧ wr.cell? ⟨g, 2, none⟩ = some (.int .i64 ee))
    (fun _ i _ => ((intOf i) + 1).toNat)
  case atStart => exact ⟨53, [], Nat.le_refl _, rfl, rfl, by simp, hownW, by intro h; injection h with h; simp at h; omega, hbW, q1, q2⟩
  case round =>
    clear hownW hbW q1 q2
    obtain ⟨k, D, hk, rfl, hD, hDl, hown, hob, hbel, q1, q2⟩ := hrel
    have hsz := hbel.size
    cases k with
    | zero =>
      have hD' : D = dsc m 53 := by have := hD.out; rwa [show dsc m 0 = [] from rfl, List.append_nil] at this
      have hN := Lib.hid (NewRow.mk hown hbel)
      rw [hD', ← hpw.out] at hN
      clear hD' hown hbel hD
      go_wp2
      go_ret
      exact hN.out
    | succ k =>
      have hk1 : (((k + 1 : Nat) : Int) - 1) = (k : Int) := by omega
      rw [hk1]
      have hbit0 := shr_and_one m k (by omega)
      rw [show (((m / 2 ^ k : Nat)) : Int) = (m : Int) / 2 ^ k by simp] at hbit0
      have hL : Hid ((il (ppI ee D)).length = D.length) := by show _ = _; rw [il_len, ppI_len]
      have hsn := Lib.hid (ppI_snoc ee D k)
      have hobx := hob.out
      have hgw : g < wr.heap.size := World.block_lt_of_cell? wr ⟨g, 1, none⟩ q1
      by_cases hb : m / 2 ^ k % 2 = 1
      · rw [hb] at hbit0
        have hD2 : Hid ((D ++ [k]) ++ dsc m k = dsc m 53) := by
          have := hD.out
          unfold dsc at this
          rw [if_pos hb] at this
          show _ = _
          rw [List.append_assoc]; exact this
        clear hb hD hk1
        have hbit : bits .and .u64 ((m : Int) / 2 ^ k) 1 = 1 := hbit0
        clear hbit0
        go_wp2_with (at_builtin; refine wpList_append_own_at _ rfl _ _ 33 rfl w.heap.size 3 i0 (.int .i64 0) 1 8 Try.underlying33 hi hz0 hz1 hz2 rfl (by decide) _ _ _ rfl (hown.alloc _) ⟨wr.heap.size, 0, none⟩ 1 1 [.int .i64 ((k : Int) + ee)] rfl rfl (news_one _ _ _) ?c2 ?c3 ?c4 ?c5 ?_)
        case c2 => intro u hu; simp at hu; subst hu; rfl
        case c3 => rw [hL.out]; unfold maxLen; omega
        case c4 => rw [hL.out]; omega
        case c5 => simp; omega
        intro v' w1 hown' hgrow _ hob'
        have hown2 : Hid (w1.ownsRow w.heap.size 3 1 v' (il (ppI ee (D ++ [k]))).length (il (ppI ee (D ++ [k])))) := by
          show w1.ownsRow _ _ _ _ _ _
          rw [hsn.out, List.length_append]; exact hown'
        have hbel2 : Below w.heap.size w w1 := (hbel.alloc hsz _).grown hgrow (by simp; omega) (fun g hg => (hown.lt g hg).1)
        have r1 := hgrow.cell ((World.cell?_alloc_lt wr _ ⟨g, 1, none⟩ hgw).trans q1) (Ne.symm hobx)
        have r2 := hgrow.cell ((World.cell?_alloc_lt wr _ ⟨g, 2, none⟩ hgw).trans q2) (Ne.symm hobx)
        have hob2 : Hid (v'.ownBlock ≠ some g) := by
          rcases hob' with h | h
          · show _ ≠ _; rw [h]; exact hobx
          · show _ ≠ _; rw [h]; intro h2; injection h2 with h2; (try simp at h2); omega
        clear hown' hgrow hown hbel hob' q1 q2
        go_wp2
        go_roundw
        case rel => exact ⟨k, D ++ [k], by omega, by go_num, hD2, by simp; omega, hown2.out, hob2, hbel2, r1, r2⟩
        case measure => simp [intOf]
      · have hb0 : m / 2 ^ k % 2 = 0 := by omega
        rw [hb0] at hbit0
        have hD2 : Hid (D ++ dsc m k = dsc m 53) := by
          have := hD.out
          unfold dsc at this
          rw [if_neg hb] at this
          exact this
        have hbit : bits .and .u64 ((m : Int) / 2 ^ k) 1 = 0 := hbit0
        clear hb hD hk1 hb0 hbit0
        go_wp2
        go_roundw
        case rel => exact ⟨k, D, by omega, by go_num, hD2, by omega, hown, hob, hbel, q1, q2⟩
        case measure => simp [intOf]

set_option maxHeartbeats 400000 in
theorem specPowers_inf (x : Nat) (w : World) (hf : INF ≤ rg x) :
    Calls Try.prog 25 #[.float .f64 x] w (NewRow 3 w.heap.size w []) := by
  have H := Lib.hid (fun W : World => specFinite_no x W hf)
  clear hf
  go_enter Try.func25, Try.ntmps25
  go_wp2_with (go_at_call 30; ((with_reducible refine (H.out _).mono ?_)); rintro e' w1 ⟨rfl, hq⟩)
  go_ret
  exact NewRow.mk (hq.own (World.ownsRow_lit w #[] 0 (Nat.le_refl _) (by decide) rfl)) (((Below.refl _ _).alloc (Nat.le_refl _) _).trans (hq.below _))

theorem specPowers_any (x : Nat) (w : World) (hx : x < 2 ^ 64) :
    Calls Try.prog 25 #[.float .f64 x] w (NewRow 3 w.heap.size w (il (pwW x))) := by
  unfold pwW
  by_cases h : rg x < INF
  · rw [if_pos h]; exact specPowers_fin x w hx h
  · rw [if_neg h]; exact specPowers_inf x w (by omega)
end Go.Proofs.Ytlpcpoganlmiaaa
