/-
  Contract of the reference's Ldexp: the same word as math.Ldexp's.
-/
import Derived.Test.YtcgbghmeommmfaaNrw
import Derived.Test.YtcgbghmeommmfaaLdx
import Derived.Test.YtcgbghmeommmfaaLawA
import Derived.Deep.RegionHeld3
namespace Go.Proofs.Ytcgbghmeommmfaa
open Go.RowKit Flt

theorem ld_parts {x m E : Nat} (h0 : 0 < rg x) (h1 : rg x < INF) (h : Parts (rv (rg x)) m E) (e : Int) : rdd (sg x) m ((E : Int) + e) = ld x e := by
  have hm : 0 < m := by
    rcases Nat.eq_zero_or_pos m with h' | h'
    · have := h.eq; rw [h', Nat.zero_mul] at this
      have := rv_pos h0; omega
    · exact h'
  rw [ld_fin h0 h1, ← h.eq, lds_shift]
  unfold rdd
  rw [if_neg (by omega), Int.add_comm]

theorem NatIn.of_new {w0 w : World} {A : Option Addr} {c m : Nat} {t : TypeId} (hm : m < 18446744073709551616) (h : w.ownsRow w0.heap.size t 1 (.slice A (ul (w2 m)).length c) (ul (w2 m)).length (ul (w2 m))) : NatIn w A 2 (w2 m) m :=
  ⟨rfl, Rd.of_own h, W32_w2 hm, by omega, nv_w2 m⟩

set_option maxHeartbeats 800000 in
theorem specLdexp_keep (x : Nat) (e : Int) (w : World) (h : rg x = 0 ∨ INF ≤ rg x) :
    Calls Try.prog 45 #[.float .f64 x, .int .i64 e] w fun e' w' => e' = .returned (.float .f64 (ld x (ex e))) ∧ Below w.heap.size w w' := by
  have hres := Lib.hid (ld_keep (e := ex e) h)
  have hI := INF_val
  by_cases hi : INF ≤ rg x
  · have H := Lib.hid (fun W : World => specFinite_no x W hi)
    clear h hI hi
    go_enter Try.func45, Try.ntmps45
    go_wp2_with (go_at_call 29; ((with_reducible refine (H.out _).mono ?_)); rintro e' w1 ⟨rfl, hq⟩)
    go_ret
    exact ⟨ret_float hres.out.symm, hq.below _⟩
  · have h0 : rg x = 0 := by omega
    have H := Lib.hid (fun W : World => specFinite_yes x W (by omega))
    have hk : key x = 0 := by have := key_natAbs x; omega
    have b0 := c_eq (a := x) (b := 0) (by rw [h0]; exact Nat.zero_le _) rg_zero_le
    rw [key_zero, decide_eq_true hk] at b0
    clear h hI hi h0 hk
    go_enter Try.func45, Try.ntmps45
    go_wp2_with (go_at_call 29; ((with_reducible refine (H.out _).mono ?_)); rintro e' w1 ⟨rfl, rfl⟩)
    go_ret
    exact ⟨ret_float hres.out.symm, Below.refl _ _⟩

set_option maxHeartbeats 1600000 in
theorem specLdexp_pos (x : Nat) (e : Int) (w : World) (hx : x < 2 ^ 64) (h0 : 0 < rg x) (h1 : rg x < INF) :
    Calls Try.prog 45 #[.float .f64 x, .int .i64 e] w fun e' w' => e' = .returned (.float .f64 (ld x (ex e))) ∧ Below w.heap.size w w' := by
  have H := Lib.hid (fun W : World => specFinite_yes x W h1)
  have HP := Lib.hid (fun W : World => partsOf_pos x W hx h1 h0)
  have b0 : (FloatKind.f64.format.order x 0 == some .eq) = false := by
    have hk : key x ≠ 0 := by have := key_natAbs x; omega
    rw [c_eq (Nat.le_of_lt h1) rg_zero_le, key_zero, decide_eq_false hk]
  have hld := Lib.hid (fun m E hp => ld_parts h0 h1 (m := m) (E := E) hp (ex e))
  have hEl := Lib.hid (fun m E (hp : Parts (rv (rg x)) m E) => hp.E_le h1)
  have e0' := Int.emod_nonneg e (show (8001 : Int) ≠ 0 by omega)
  have e1' := Int.emod_lt_of_pos e (show (0 : Int) < 8001 by omega)
  clear hx h0 h1
  go_enter Try.func45, Try.ntmps45
  go_wp2_with (go_at_call 29; ((with_reducible refine (H.out _).mono ?_)); rintro e' w1 ⟨rfl, rfl⟩)
  refine (HP.out _).mono ?_
  rintro e' w1 ⟨m, E, hP, hE, rfl, hbel⟩
  have hres := hld.out m E hP
  have hE2 := hEl.out m E hP
  have hm53 := hP.lt
  clear HP hld hEl hP H
  go_wp2_with fail
  have q0 : (w1.alloc (.cells #[.bool (sg x), .int .u64 (m : Int), .int .i64 ((E : Int) - 1074)] 52)).cell? ⟨w1.heap.size, 0, none⟩ = some (.bool (sg x)) := by simp
  have q1 : (w1.alloc (.cells #[.bool (sg x), .int .u64 (m : Int), .int .i64 ((E : Int) - 1074)] 52)).cell? ⟨w1.heap.size, 1, none⟩ = some (.int .u64 (m : Int)) := by simp
  have q2 : (w1.alloc (.cells #[.bool (sg x), .int .u64 (m : Int), .int .i64 ((E : Int) - 1074)] 52)).cell? ⟨w1.heap.size, 2, none⟩ = some (.int .i64 ((E : Int) - 1074)) := by simp
  have hbW : Below w.heap.size w (w1.alloc (.cells #[.bool (sg x), .int .u64 (m : Int), .int .i64 ((E : Int) - 1074)] 52)) := hbel.alloc hbel.size _
  have hgW : w1.heap.size < (w1.alloc (.cells #[.bool (sg x), .int .u64 (m : Int), .int .i64 ((E : Int) - 1074)] 52)).heap.size := by simp
  generalize w1.alloc (.cells #[.bool (sg x), .int .u64 (m : Int), .int .i64 ((E : Int) - 1074)] 52) = W at *
  generalize w1.heap.size = g at *
  have hmu : m < 18446744073709551616 := by omega
  have hR := Lib.hid (fun (W2 : World) (A2 : Option Addr) (c2 : Nat) (ho : W2.ownsRow W.drew.heap.size 50 1 (.slice A2 (ul (w2 m)).length c2) (ul (w2 m)).length (ul (w2 m))) =>
    rounded_any (sg x) (w2 m) A2 2 c2 m ((E : Int) - 1074 + e % 8001 - 4000) W2 (NatIn.of_new hmu ho) (by have := bl_le (n := m) (k := 53) hm53; omega) (by omega) (by omega))
  rw [show (E : Int) - 1074 + e % 8001 - 4000 + 1074 = (E : Int) + ex e by unfold ex; omega, hres] at hR
  have hwr1 : IntKind.i64.wrap ((E : Int) - 1074 + e % 8001) = (E : Int) - 1074 + e % 8001 := IntWalk.i64_in _ (by omega)
  have hwr2 : IntKind.i64.wrap ((E : Int) - 1074 + e % 8001 - 4000) = (E : Int) - 1074 + e % 8001 - 4000 := IntWalk.i64_in _ (by omega)
  obtain ⟨z, hz⟩ : ∃ z, Hid (ld x (ex e) = z) := ⟨_, rfl⟩
  rw [hz.out] at hR
  generalize sg x = neg at *
  clear hres hbel
  go_region_held3 (fun w' => w'.cell? ⟨g, 0, none⟩ = some (.bool neg) ∧ w'.cell? ⟨g, 1, none⟩ = some (.int .u64 (m : Int)) ∧ w'.cell? ⟨g, 2, none⟩ = some (.int .i64 ((E : Int) - 1074))) (first | exact ⟨q0, q1, q2⟩ | exact ⟨k0, k1, k2⟩ | exact ⟨l0, l1, l2⟩ | go_keep)
    (first | (go_at_call 57; refine (naturalOf_any m _ hmu).mono ?_; rintro e' w2 ⟨A2, c2, rfl, hc2, hown2, hb2⟩; have k0 := (hb2.cell (p := ⟨g, 0, none⟩) hgW).trans q0; have k1 := (hb2.cell (p := ⟨g, 1, none⟩) hgW).trans q1; have k2 := (hb2.cell (p := ⟨g, 2, none⟩) hgW).trans q2; have hR2 := Lib.hid (hR.out w2 A2 c2 hown2)) | (go_at_call 16; refine (specAt_any _ _ _ (by decide) (by decide)).mono ?_; rintro e' w' ⟨rfl, rfl⟩) | (go_at_call 56; refine hR2.out.mono ?_; rintro e' w4 ⟨rfl, hb4⟩; have l0 := (hb4.cell (p := ⟨g, 0, none⟩) (Nat.lt_of_lt_of_le hgW hb2.size)).trans k0; have l1 := (hb4.cell (p := ⟨g, 1, none⟩) (Nat.lt_of_lt_of_le hgW hb2.size)).trans k1; have l2 := (hb4.cell (p := ⟨g, 2, none⟩) (Nat.lt_of_lt_of_le hgW hb2.size)).trans k2))
  all_goals
    clear hwr1 hwr2
    go_wp2
    go_ret
    exact ⟨ret_float hz.out.symm, ((hbW.trans ((Qt.refl W).drew.below _)).trans (hb2.mono hbW.size)).trans (hb4.mono (Nat.le_trans hbW.size hb2.size))⟩

theorem specLdexp_any (x : Nat) (e : Int) (w : World) (hx : x < 2 ^ 64) :
    Calls Try.prog 45 #[.float .f64 x, .int .i64 e] w fun e' w' => e' = .returned (.float .f64 (ld x (ex e))) ∧ Below w.heap.size w w' := by
  by_cases h : rg x = 0 ∨ INF ≤ rg x
  · exact specLdexp_keep x e w h
  · exact specLdexp_pos x e w hx (by omega) (by omega)
end Go.Proofs.Ytcgbghmeommmfaa
