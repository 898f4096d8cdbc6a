/-
  Contract of spec.Digits.
-/
import Derived.Test.YtcgbghmeommmfaaDig
import Derived.Test.YtcgbghmeommmfaaSpcC
import Derived.Test.YtcgbghmeommmfaaSpcB
import Derived.Test.YtcgbghmeommmfaaNwk
import Derived.Test.YtcgbghmeommmfaaLawA
import Derived.Maps.AppendAt
namespace Go.Proofs.Ytcgbghmeommmfaa
open Go.RowKit Flt

/-- the digit as spec.Digits reads it -/
def pdg (m : Nat) (k : Int) : Nat := if 0 ≤ k ∧ k < 53 then m / 2 ^ k.toNat % 2 else 0
theorem pdg_lt (m : Nat) (k : Int) : pdg m k < 2 := by unfold pdg; split <;> omega
theorem pdg_parts {n m E i : Nat} (h : Parts n m E) (_hi : 0 < i) : pdg m (-(i : Int) - ((E : Int) - 1074)) = dg n i := by
  have he := e0_eq
  unfold pdg dg
  rw [← h.eq, Nat.mul_assoc, ← Nat.pow_add, U_eq]
  rcases Nat.lt_or_ge e0 (E + i) with hlt | hge
  · rw [if_neg (by omega)]
    obtain ⟨d, hd⟩ : ∃ d, E + i = e0 + (d + 1) := ⟨E + i - e0 - 1, by omega⟩
    rw [hd, Nat.pow_add, Nat.mul_left_comm, Nat.mul_div_cancel_left _ (pow_pos e0), Nat.pow_succ, ← Nat.mul_assoc, Nat.mul_mod_left]
  · obtain ⟨d, hd⟩ : ∃ d, e0 = E + i + d := ⟨e0 - (E + i), by omega⟩
    have hk : -(i : Int) - ((E : Int) - 1074) = (d : Int) := by omega
    rw [hk]
    have e : m * 2 ^ (E + i) / 2 ^ e0 = m / 2 ^ d := by
      rw [hd, Nat.pow_add 2 (E + i) d, Nat.mul_comm m, Nat.mul_div_mul_left _ _ (pow_pos _)]
    rw [e]
    by_cases h53 : d < 53
    · rw [if_pos (by omega)]; rfl
    · rw [if_neg (by omega)]
      have : m < 2 ^ d := Nat.lt_of_lt_of_le h.lt (pow_le (by omega))
      rw [Nat.div_eq_of_lt this]

/-- what partsOf says of a finite word, as far as spec.Digits asks -/
structure PD (x : Nat) (neg : Bool) (m : Nat) (e : Int) : Prop where
  lt : m < 2 ^ 53
  e1 : -1074 ≤ e
  e2 : e ≤ 3000
  dig : ∀ i : Nat, 0 < i → sdg (sg x) (rv (rg x)) i = if neg then -(pdg m (-(i : Int) - e) : Int) else (pdg m (-(i : Int) - e) : Int)

theorem partsOf_dig (x : Nat) (w : World) (hx : x < 2 ^ 64) (hf : rg x < INF) :
    Calls Try.prog 44 #[.float .f64 x] w fun e w' => ∃ (neg : Bool) (m : Nat) (ee : Int), PD x neg m ee ∧ e = .returned (.agg #[.bool neg, .int .u64 (m : Int), .int .i64 ee]) ∧ Below w.heap.size w w' := by
  rcases Nat.eq_zero_or_pos (rg x) with h0 | h0
  · refine (partsOf_zero x w hx h0).mono ?_
    rintro e w' ⟨rfl, hb⟩
    refine ⟨false, 0, 0, ⟨by decide, by decide, by decide, fun i hi => ?_⟩, rfl, hb⟩
    have e1 : pdg 0 (-(i : Int) - 0) = 0 := by unfold pdg; split <;> simp
    have e2 : dg (rv (rg x)) i = 0 := by rw [h0, rv_zero]; unfold dg; simp
    rw [e1]
    unfold sdg
    rw [e2]
    cases sg x <;> rfl
  · refine (partsOf_pos x w hx hf h0).mono ?_
    rintro e w' ⟨m, E, hP, hE, rfl, hb⟩
    exact ⟨sg x, m, _, ⟨hP.lt, by omega, by omega, fun i hi => by rw [pdg_parts hP hi]; rfl⟩, rfl, hb⟩

theorem dig_in {m : Nat} {kk : Int} (hm : m < 18446744073709551616) (h : 0 ≤ kk ∧ kk < 53) : bits .and .u64 ((m : Int) / 2 ^ kk.toNat) 1 = (pdg m kk : Int) := by
  have hs := shr_and_one m kk.toNat hm
  have e : (m : Int) / 2 ^ kk.toNat = ((m / 2 ^ kk.toNat : Nat) : Int) := by simp
  unfold pdg
  rw [if_pos h, e, hs]
theorem pdg_out {m : Nat} {kk : Int} (h : ¬ (0 ≤ kk ∧ kk < 53)) : pdg m kk = 0 := by
  unfold pdg; rw [if_neg h]
theorem wrap_small {a : Int} (h : -1 ≤ a ∧ a ≤ 1) : wrap64 a = a := by unfold wrap64; omega

/-- what a round does behind the digit -/
theorem sdg_in {s neg : Bool} {v m i : Nat} {kk : Int} (hm : m < 18446744073709551616) (h : 0 ≤ kk ∧ kk < 53) (hd : sdg s v i = if neg then -(pdg m kk : Int) else (pdg m kk : Int)) :
    sdg s v i = if neg then wrap64 (-(wrap64 (bits .and .u64 ((m : Int) / 2 ^ kk.toNat) 1))) else wrap64 (bits .and .u64 ((m : Int) / 2 ^ kk.toNat) 1) := by
  have hl := pdg_lt m kk
  rw [dig_in hm h, hd]
  generalize pdg m kk = d at *
  rw [wrap_small (a := (d : Int)) (by omega), wrap_small (a := -(d : Int)) (by omega)]
theorem sdg_out {s neg : Bool} {v m i : Nat} {kk : Int} (h : ¬ (0 ≤ kk ∧ kk < 53)) (hd : sdg s v i = if neg then -(pdg m kk : Int) else (pdg m kk : Int)) :
    sdg s v i = 0 := by
  rw [hd, pdg_out h]; cases neg <;> rfl

set_option maxHeartbeats 1600000 in
theorem specDigits_fin (x : Nat) (n : Int) (w : World) (hx : x < 2 ^ 64) (hf : rg x < INF) :
    Calls Try.prog 31 #[.float .f64 x, .int .i64 n] w (NewRow 3 w.heap.size w (il (digL (sg x) (rv (rg x)) (n % 1200).toNat))) := by
  obtain ⟨i0, hi, hz0, hz1, hz2⟩ := info_parts Try.infoI
  obtain ⟨N, hN⟩ : ∃ N : Nat, n % 1200 = (N : Int) := ⟨(n % 1200).toNat, by omega⟩
  have hN2 : N < 1200 := by omega
  rw [show (n % 1200).toNat = N by omega]
  have HN := Lib.hid hN
  have H := Lib.hid (fun W : World => specFinite_yes x W hf)
  have HP := Lib.hid (fun W : World => partsOf_dig x W hx hf)
  clear hN hx hf
  go_enter Try.func31, Try.ntmps31
  go_wp2_with (go_at_call 29; ((with_reducible refine (H.out _).mono ?_)); rintro e' w1 ⟨rfl, rfl⟩)
  refine (HP.out _).mono ?_
  rintro e' w1 ⟨neg, m, ee, hP, rfl, hbel1⟩
  have hbel := ((Below.refl w.heap.size w).alloc (Nat.le_refl _) _).trans (hbel1.mono (by simp))
  have hown0 := own_below (World.ownsRow_lit (e := 3) (size := 1) w #[] 0 (Nat.le_refl _) (by decide) rfl) hbel1
  have hgt : w.heap.size < w1.heap.size := by have := hbel1.size; simp at this; omega
  have hm := hP.lt
  have he1 := hP.e1
  have he2 := hP.e2
  have hdig := Lib.hid hP.dig
  clear HP hP H hbel1
  generalize sg x = s at *
  generalize rv (rg x) = v at *
  go_wp2_with fail
  obtain ⟨W, hW⟩ : ∃ W, W = w1.alloc (.cells #[.bool neg, .int .u64 (m : Int), .int .i64 ee] 52) := ⟨_, rfl⟩
  have q0 : W.cell? ⟨w1.heap.size, 0, none⟩ = some (.bool neg) := by rw [hW]; simp
  have q1 : W.cell? ⟨w1.heap.size, 1, none⟩ = some (.int .u64 (m : Int)) := by rw [hW]; simp
  have q2 : W.cell? ⟨w1.heap.size, 2, none⟩ = some (.int .i64 ee) := by rw [hW]; simp
  have hbW : Below w.heap.size w W := by rw [hW]; exact hbel.alloc hbel.size _
  have hownW : W.ownsRow w.heap.size 3 1 (.slice (some ⟨w.heap.size, 0, none⟩) 0 0) 0 [] := by rw [hW]; exact hown0.alloc _
  rw [← hW]
  clear hW hown0 hbel
  generalize hg : w1.heap.size = g at *
  clear hg
  go_loopw [5, 7, 8, 9] (fun o i _ _ wr => ∃ (k : Nat), k ≤ N ∧ i = .int .i64 ((k : Int) + 1) ∧ wr.ownsRow w.heap.size 3 1 o (il (digL s v k)).length (il (digL s v k)) ∧ Hid (o.ownBlock ≠ some g) ∧ Below w.heap.size w wr ∧ wr.cell? ⟨g, 0, none⟩ = some (.bool neg) ∧ wr.cell? ⟨g, 1, none⟩ = some (.int .u64 (m : Int)) ∧ wr.cell? ⟨g, 2, none⟩ = some (.int .i64 ee))
    (fun _ i _ _ _ => (N : Nat) + 1 - (intOf i).toNat)
  case atStart => exact ⟨0, Nat.zero_le _, rfl, hownW, by intro h; injection h with h; simp at h; omega, hbW, q0, q1, q2⟩
  case round =>
    clear hownW hbW q0 q1 q2
    obtain ⟨k, hk, rfl, hown, hob, hbel, q0, q1, q2⟩ := hrel
    have hsz := hbel.size
    by_cases hlt : k < N
    · have hd := Lib.hid (hdig.out (k + 1) (Nat.succ_pos k))
      have hmu : Hid (m < 18446744073709551616) := Nat.lt_trans hm (by decide)
      have hL : Hid ((il (digL s v k)).length = k) := by show _ = _; rw [il_len, digL_len]
      have hsu := Lib.hid (digL_succ s v k)
      have hin' := fun h => sdg_in hmu.out h hd.out
      have hin := Lib.hid hin'
      have hout' := fun h => sdg_out h hd.out
      have hout := Lib.hid hout'
      have hstep : Hid (∀ (v' : Value) (w1 : World), w1.ownsRow w.heap.size 3 1 v' (k + 1) (il (digL s v k) ++ [.int .i64 (sdg s v (k + 1))]) → w1.ownsRow w.heap.size 3 1 v' (il (digL s v (k + 1))).length (il (digL s v (k + 1)))) := by
        intro v' w1 h
        rw [hsu.out, il_append, List.length_append, hL.out]; exact h
      generalize sdg s v (k + 1) = dv at *
      clear hd hm hmu hdig hin' hout' hsu
      have hobx := hob.out
      have hgw : g < wr.heap.size := World.block_lt_of_cell? wr ⟨g, 0, none⟩ q0
      cases neg
      · by_cases hr : 0 ≤ -((k + 1 : Nat) : Int) - ee ∧ -((k + 1 : Nat) : Int) - ee < 53
        · have hv := Lib.hid (hin.out hr)
          rw [if_neg (by decide)] at hv
          rw [Int.natCast_succ] at hr
          rw [Int.natCast_succ] at hv
          clear hin hout
          go_wp2_with (first | (go_at_call 16; ((with_reducible refine (specAt_any _ _ _ (by decide) (by decide)).mono ?_)); rintro e' w' ⟨rfl, rfl⟩; rw [HN.out]) | (at_builtin; refine wpList_append_own_at _ rfl _ _ 38 rfl w.heap.size 3 i0 (.int .i64 0) 1 8 Try.underlying38 hi hz0 hz1 hz2 rfl (by decide) _ _ _ rfl (hown.alloc _) ⟨wr.heap.size, 0, none⟩ 1 1 [_] rfl rfl (news_one _ _ _) ?c2 ?c3 ?c4 ?c5 ?_))
          case c2 => first | rfl | (intro u hu; simp at hu; subst hu; rfl)
          case c3 => rw [hL.out]; unfold maxLen; omega
          case c4 => rw [hL.out]; omega
          case c5 => first | omega | (simp; omega)
          intro v' w1 hown' hgrow _ hob'
          have hown2 : Hid (w1.ownsRow w.heap.size 3 1 v' (il (digL s v (k + 1))).length (il (digL s v (k + 1)))) := by
            refine hstep.out v' w1 ?_
            rw [hv.out]
            rw [hL.out] at hown'
            exact hown'
          have hbel2 : Below w.heap.size w w1 := (hbel.alloc hsz _).grown hgrow (by simp; omega) (fun g hg => (hown.lt g hg).1)
          have r0 := hgrow.cell ((World.cell?_alloc_lt wr _ ⟨g, 0, none⟩ hgw).trans q0) (Ne.symm hobx)
          have r1 := hgrow.cell ((World.cell?_alloc_lt wr _ ⟨g, 1, none⟩ hgw).trans q1) (Ne.symm hobx)
          have r2 := hgrow.cell ((World.cell?_alloc_lt wr _ ⟨g, 2, none⟩ hgw).trans q2) (Ne.symm hobx)
          have hob2 : Hid (v'.ownBlock ≠ some g) := by
            rcases hob' with h | h
            · show _ ≠ _; rw [h]; exact hobx
            · show _ ≠ _; rw [h]; intro h2; injection h2 with h2; (try simp at h2); omega
          clear hown' hgrow hown hbel hob' q0 q1 q2
          go_wp2
          go_roundw
          case rel => exact ⟨k + 1, by omega, by go_num, hown2.out, hob2, hbel2, r0, r1, r2⟩
          case measure => simp [intOf]; omega
        · have hv := Lib.hid (hout.out hr)
          rw [Int.natCast_succ] at hr
          clear hin hout
          rcases Int.lt_or_le (-((k : Int) + 1) - ee) 0 with hlo | hhi
          · clear hr
            go_wp2_with (first | (go_at_call 16; ((with_reducible refine (specAt_any _ _ _ (by decide) (by decide)).mono ?_)); rintro e' w' ⟨rfl, rfl⟩; rw [HN.out]) | (at_builtin; refine wpList_append_own_at _ rfl _ _ 38 rfl w.heap.size 3 i0 (.int .i64 0) 1 8 Try.underlying38 hi hz0 hz1 hz2 rfl (by decide) _ _ _ rfl (hown.alloc _) ⟨wr.heap.size, 0, none⟩ 1 1 [_] rfl rfl (news_one _ _ _) ?c2 ?c3 ?c4 ?c5 ?_))
            case c2 => first | rfl | (intro u hu; simp at hu; subst hu; rfl)
            case c3 => rw [hL.out]; unfold maxLen; omega
            case c4 => rw [hL.out]; omega
            case c5 => first | omega | (simp; omega)
            intro v' w1 hown' hgrow _ hob'
            have hown2 : Hid (w1.ownsRow w.heap.size 3 1 v' (il (digL s v (k + 1))).length (il (digL s v (k + 1)))) := by
              refine hstep.out v' w1 ?_
              rw [hv.out]
              rw [hL.out] at hown'
              exact hown'
            have hbel2 : Below w.heap.size w w1 := (hbel.alloc hsz _).grown hgrow (by simp; omega) (fun g hg => (hown.lt g hg).1)
            have r0 := hgrow.cell ((World.cell?_alloc_lt wr _ ⟨g, 0, none⟩ hgw).trans q0) (Ne.symm hobx)
            have r1 := hgrow.cell ((World.cell?_alloc_lt wr _ ⟨g, 1, none⟩ hgw).trans q1) (Ne.symm hobx)
            have r2 := hgrow.cell ((World.cell?_alloc_lt wr _ ⟨g, 2, none⟩ hgw).trans q2) (Ne.symm hobx)
            have hob2 : Hid (v'.ownBlock ≠ some g) := by
              rcases hob' with h | h
              · show _ ≠ _; rw [h]; exact hobx
              · show _ ≠ _; rw [h]; intro h2; injection h2 with h2; (try simp at h2); omega
            clear hown' hgrow hown hbel hob' q0 q1 q2
            go_wp2
            go_roundw
            case rel => exact ⟨k + 1, by omega, by go_num, hown2.out, hob2, hbel2, r0, r1, r2⟩
            case measure => simp [intOf]; omega
          · have hhi2 : 53 ≤ -((k : Int) + 1) - ee := by omega
            clear hr
            go_wp2_with (first | (go_at_call 16; ((with_reducible refine (specAt_any _ _ _ (by decide) (by decide)).mono ?_)); rintro e' w' ⟨rfl, rfl⟩; rw [HN.out]) | (at_builtin; refine wpList_append_own_at _ rfl _ _ 38 rfl w.heap.size 3 i0 (.int .i64 0) 1 8 Try.underlying38 hi hz0 hz1 hz2 rfl (by decide) _ _ _ rfl (hown.alloc _) ⟨wr.heap.size, 0, none⟩ 1 1 [_] rfl rfl (news_one _ _ _) ?c2 ?c3 ?c4 ?c5 ?_))
            case c2 => first | rfl | (intro u hu; simp at hu; subst hu; rfl)
            case c3 => rw [hL.out]; unfold maxLen; omega
            case c4 => rw [hL.out]; omega
            case c5 => first | omega | (simp; omega)
            intro v' w1 hown' hgrow _ hob'
            have hown2 : Hid (w1.ownsRow w.heap.size 3 1 v' (il (digL s v (k + 1))).length (il (digL s v (k + 1)))) := by
              refine hstep.out v' w1 ?_
              rw [hv.out]
              rw [hL.out] at hown'
              exact hown'
            have hbel2 : Below w.heap.size w w1 := (hbel.alloc hsz _).grown hgrow (by simp; omega) (fun g hg => (hown.lt g hg).1)
            have r0 := hgrow.cell ((World.cell?_alloc_lt wr _ ⟨g, 0, none⟩ hgw).trans q0) (Ne.symm hobx)
            have r1 := hgrow.cell ((World.cell?_alloc_lt wr _ ⟨g, 1, none⟩ hgw).trans q1) (Ne.symm hobx)
            have r2 := hgrow.cell ((World.cell?_alloc_lt wr _ ⟨g, 2, none⟩ hgw).trans q2) (Ne.symm hobx)
            have hob2 : Hid (v'.ownBlock ≠ some g) := by
              rcases hob' with h | h
              · show _ ≠ _; rw [h]; exact hobx
              · show _ ≠ _; rw [h]; intro h2; injection h2 with h2; (try simp at h2); omega
            clear hown' hgrow hown hbel hob' q0 q1 q2
            go_wp2
            go_roundw
            case rel => exact ⟨k + 1, by omega, by go_num, hown2.out, hob2, hbel2, r0, r1, r2⟩
            case measure => simp [intOf]; omega
      · by_cases hr : 0 ≤ -((k + 1 : Nat) : Int) - ee ∧ -((k + 1 : Nat) : Int) - ee < 53
        · have hv := Lib.hid (hin.out hr)
          rw [if_pos (by decide)] at hv
          rw [Int.natCast_succ] at hr
          rw [Int.natCast_succ] at hv
          clear hin hout
          go_wp2_with (first | (go_at_call 16; ((with_reducible refine (specAt_any _ _ _ (by decide) (by decide)).mono ?_)); rintro e' w' ⟨rfl, rfl⟩; rw [HN.out]) | (at_builtin; refine wpList_append_own_at _ rfl _ _ 38 rfl w.heap.size 3 i0 (.int .i64 0) 1 8 Try.underlying38 hi hz0 hz1 hz2 rfl (by decide) _ _ _ rfl (hown.alloc _) ⟨wr.heap.size, 0, none⟩ 1 1 [_] rfl rfl (news_one _ _ _) ?c2 ?c3 ?c4 ?c5 ?_))
          case c2 => first | rfl | (intro u hu; simp at hu; subst hu; rfl)
          case c3 => rw [hL.out]; unfold maxLen; omega
          case c4 => rw [hL.out]; omega
          case c5 => first | omega | (simp; omega)
          intro v' w1 hown' hgrow _ hob'
          have hown2 : Hid (w1.ownsRow w.heap.size 3 1 v' (il (digL s v (k + 1))).length (il (digL s v (k + 1)))) := by
            refine hstep.out v' w1 ?_
            rw [hv.out]
            rw [hL.out] at hown'
            exact hown'
          have hbel2 : Below w.heap.size w w1 := (hbel.alloc hsz _).grown hgrow (by simp; omega) (fun g hg => (hown.lt g hg).1)
          have r0 := hgrow.cell ((World.cell?_alloc_lt wr _ ⟨g, 0, none⟩ hgw).trans q0) (Ne.symm hobx)
          have r1 := hgrow.cell ((World.cell?_alloc_lt wr _ ⟨g, 1, none⟩ hgw).trans q1) (Ne.symm hobx)
          have r2 := hgrow.cell ((World.cell?_alloc_lt wr _ ⟨g, 2, none⟩ hgw).trans q2) (Ne.symm hobx)
          have hob2 : Hid (v'.ownBlock ≠ some g) := by
            rcases hob' with h | h
            · show _ ≠ _; rw [h]; exact hobx
            · show _ ≠ _; rw [h]; intro h2; injection h2 with h2; (try simp at h2); omega
          clear hown' hgrow hown hbel hob' q0 q1 q2
          go_wp2
          go_roundw
          case rel => exact ⟨k + 1, by omega, by go_num, hown2.out, hob2, hbel2, r0, r1, r2⟩
          case measure => simp [intOf]; omega
        · have hv := Lib.hid (hout.out hr)
          rw [Int.natCast_succ] at hr
          clear hin hout
          rcases Int.lt_or_le (-((k : Int) + 1) - ee) 0 with hlo | hhi
          · clear hr
            go_wp2_with (first | (go_at_call 16; ((with_reducible refine (specAt_any _ _ _ (by decide) (by decide)).mono ?_)); rintro e' w' ⟨rfl, rfl⟩; rw [HN.out]) | (at_builtin; refine wpList_append_own_at _ rfl _ _ 38 rfl w.heap.size 3 i0 (.int .i64 0) 1 8 Try.underlying38 hi hz0 hz1 hz2 rfl (by decide) _ _ _ rfl (hown.alloc _) ⟨wr.heap.size, 0, none⟩ 1 1 [_] rfl rfl (news_one _ _ _) ?c2 ?c3 ?c4 ?c5 ?_))
            case c2 => first | rfl | (intro u hu; simp at hu; subst hu; rfl)
            case c3 => rw [hL.out]; unfold maxLen; omega
            case c4 => rw [hL.out]; omega
            case c5 => first | omega | (simp; omega)
            intro v' w1 hown' hgrow _ hob'
            have hown2 : Hid (w1.ownsRow w.heap.size 3 1 v' (il (digL s v (k + 1))).length (il (digL s v (k + 1)))) := by
              refine hstep.out v' w1 ?_
              rw [hv.out]
              rw [hL.out] at hown'
              exact hown'
            have hbel2 : Below w.heap.size w w1 := (hbel.alloc hsz _).grown hgrow (by simp; omega) (fun g hg => (hown.lt g hg).1)
            have r0 := hgrow.cell ((World.cell?_alloc_lt wr _ ⟨g, 0, none⟩ hgw).trans q0) (Ne.symm hobx)
            have r1 := hgrow.cell ((World.cell?_alloc_lt wr _ ⟨g, 1, none⟩ hgw).trans q1) (Ne.symm hobx)
            have r2 := hgrow.cell ((World.cell?_alloc_lt wr _ ⟨g, 2, none⟩ hgw).trans q2) (Ne.symm hobx)
            have hob2 : Hid (v'.ownBlock ≠ some g) := by
              rcases hob' with h | h
              · show _ ≠ _; rw [h]; exact hobx
              · show _ ≠ _; rw [h]; intro h2; injection h2 with h2; (try simp at h2); omega
            clear hown' hgrow hown hbel hob' q0 q1 q2
            go_wp2
            go_roundw
            case rel => exact ⟨k + 1, by omega, by go_num, hown2.out, hob2, hbel2, r0, r1, r2⟩
            case measure => simp [intOf]; omega
          · have hhi2 : 53 ≤ -((k : Int) + 1) - ee := by omega
            clear hr
            go_wp2_with (first | (go_at_call 16; ((with_reducible refine (specAt_any _ _ _ (by decide) (by decide)).mono ?_)); rintro e' w' ⟨rfl, rfl⟩; rw [HN.out]) | (at_builtin; refine wpList_append_own_at _ rfl _ _ 38 rfl w.heap.size 3 i0 (.int .i64 0) 1 8 Try.underlying38 hi hz0 hz1 hz2 rfl (by decide) _ _ _ rfl (hown.alloc _) ⟨wr.heap.size, 0, none⟩ 1 1 [_] rfl rfl (news_one _ _ _) ?c2 ?c3 ?c4 ?c5 ?_))
            case c2 => first | rfl | (intro u hu; simp at hu; subst hu; rfl)
            case c3 => rw [hL.out]; unfold maxLen; omega
            case c4 => rw [hL.out]; omega
            case c5 => first | omega | (simp; omega)
            intro v' w1 hown' hgrow _ hob'
            have hown2 : Hid (w1.ownsRow w.heap.size 3 1 v' (il (digL s v (k + 1))).length (il (digL s v (k + 1)))) := by
              refine hstep.out v' w1 ?_
              rw [hv.out]
              rw [hL.out] at hown'
              exact hown'
            have hbel2 : Below w.heap.size w w1 := (hbel.alloc hsz _).grown hgrow (by simp; omega) (fun g hg => (hown.lt g hg).1)
            have r0 := hgrow.cell ((World.cell?_alloc_lt wr _ ⟨g, 0, none⟩ hgw).trans q0) (Ne.symm hobx)
            have r1 := hgrow.cell ((World.cell?_alloc_lt wr _ ⟨g, 1, none⟩ hgw).trans q1) (Ne.symm hobx)
            have r2 := hgrow.cell ((World.cell?_alloc_lt wr _ ⟨g, 2, none⟩ hgw).trans q2) (Ne.symm hobx)
            have hob2 : Hid (v'.ownBlock ≠ some g) := by
              rcases hob' with h | h
              · show _ ≠ _; rw [h]; exact hobx
              · show _ ≠ _; rw [h]; intro h2; injection h2 with h2; (try simp at h2); omega
            clear hown' hgrow hown hbel hob' q0 q1 q2
            go_wp2
            go_roundw
            case rel => exact ⟨k + 1, by omega, by go_num, hown2.out, hob2, hbel2, r0, r1, r2⟩
            case measure => simp [intOf]; omega
    · have hkm : k = N := by omega
      have hN' := Lib.hid (NewRow.mk hown hbel)
      rw [hkm] at hN'
      rw [hkm]
      clear hkm hown hbel hdig
      go_wp2_with (go_at_call 16; ((with_reducible refine (specAt_any _ _ _ (by decide) (by decide)).mono ?_)); rintro e' w' ⟨rfl, rfl⟩; rw [HN.out])
      go_ret
      exact hN'.out

set_option maxHeartbeats 400000 in
theorem specDigits_inf (x : Nat) (n : Int) (w : World) (hf : INF ≤ rg x) :
    Calls Try.prog 31 #[.float .f64 x, .int .i64 n] w (NewRow 3 w.heap.size w []) := by
  have H := Lib.hid (fun W : World => specFinite_no x W hf)
  clear hf
  go_enter Try.func31, Try.ntmps31
  go_wp2_with (go_at_call 29; ((with_reducible refine (H.out _).mono ?_)); rintro e' w1 ⟨rfl, hq⟩)
  go_ret
  exact NewRow.mk (hq.own (World.ownsRow_lit w #[] 0 (Nat.le_refl _) (by decide) rfl)) (((Below.refl _ _).alloc (Nat.le_refl _) _).trans (hq.below _))

theorem specDigits_any (x : Nat) (n : Int) (w : World) (hx : x < 2 ^ 64) :
    Calls Try.prog 31 #[.float .f64 x, .int .i64 n] w (NewRow 3 w.heap.size w (il (digW x n))) := by
  unfold digW
  by_cases h : rg x < INF
  · rw [if_pos h]; exact specDigits_fin x n w hx h
  · rw [if_neg h]; exact specDigits_inf x n w (by omega)
end Go.Proofs.Ytcgbghmeommmfaa
