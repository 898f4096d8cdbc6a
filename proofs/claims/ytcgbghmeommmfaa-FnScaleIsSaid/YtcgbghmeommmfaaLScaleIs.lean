/-
  The walk of laws.FnScaleIs: it returns true, for every list and every e.
-/
import Derived.Test.YtcgbghmeommmfaaSsc
import Derived.Test.YtcgbghmeommmfaaFlo
import Derived.Test.YtcgbghmeommmfaaRow
namespace Go.Proofs.Ytcgbghmeommmfaa.LScaleIs
open Go.RowKit Flt

theorem impLdexp_one (W : World) : Calls Try.prog 27 #[.float .f64 4607182418800017408, .int .i64 4000] W fun e' w' => e' = .returned (.float .f64 4607182418800017408) ∧ W = w' := by
  have h := impLdexp_any 4607182418800017408 4000 W (by decide)
  have e : ex 4000 = 0 := by decide
  rw [e, ld_zero (by decide)] at h
  exact h
theorem one_eq : (FloatKind.f64.format.order 4607182418800017408 4607182418800017408 == some .eq) = true := by
  rw [c_self']; rfl

theorem alls_refl (xs : List Nat) : Alls xs xs := ⟨rfl, fun _ _ => same_refl _⟩

set_option maxHeartbeats 800000 in
theorem walk (w : World) (A : Option Addr) (n c : Nat) (l : List Nat) (h : FRow w A n c l) (e : Int) (_he : -9223372036854775808 ≤ e ∧ e ≤ 9223372036854775807) :
    Calls Try.prog 13 #[.slice A n c, .int .i64 e] w fun e' w' => e' = .returned (.bool true) ∧ Below w.heap.size w w' := by
  obtain ⟨hlen, hcap, hroom, hrd, hwd⟩ := h
  have H1 := Lib.hid (fun W : World => impLdexp_one W)
  have o1 := one_eq
  have HA := Lib.hid (scale_any l e A c n w.heap.size w hlen hwd hroom (Nat.le_refl _) hrd)
  have HB := Lib.hid (fun (w1 : World) (hb : Below w.heap.size w w1) => specScale_any l e A c n w.heap.size w1 hlen hwd hroom hb.size (hrd.below hb))
  have hl : Hid ((fl (scl e l)).length = n) := by show _ = _; rw [fl_len, scl_len, hlen]
  have hn : n ≤ 9223372036854775807 := by omega
  clear hlen hwd hrd
  go_enter Try.func13, Try.ntmps13
  go_wp2_with fail
  ((with_reducible refine HA.out.mono ?_); rintro e' w1 ⟨A1, c1, rfl, hc1, o1', b1⟩)
  have HB1 := Lib.hid (HB.out w1 b1)
  have r1 := Rd.of_own o1'
  rw [hl.out]
  clear HA HB o1' hc1
  go_wp2_with fail
  ((with_reducible refine HB1.out.mono ?_); rintro e' w2 ⟨A2, c2, rfl, hc2, o2', b2⟩)
  have r2 := Rd.of_own o2'
  have HC := Lib.hid (sameAll_any (scl e l) (scl e l) A1 A2 c1 c2 n n w2.heap.size w2 (by rw [← hl.out, fl_len]) (by rw [← hl.out, fl_len]) hn ((r1.below b2).more b2.size) r2 (alls_refl _))
  rw [hl.out]
  clear HB1 o2' hc2 r1 r2
  go_wp2_with fail
  ((with_reducible refine HC.out.mono ?_); rintro e' w3 ⟨rfl, q3⟩)
  clear HC
  go_wp2_with (go_at_call 27; ((with_reducible refine (H1.out _).mono ?_)); rintro e' w' ⟨rfl, rfl⟩)
  go_ret
  exact ⟨rfl, (b1.trans (b2.mono b1.size)).trans (q3.below _)⟩
end Go.Proofs.Ytcgbghmeommmfaa.LScaleIs
