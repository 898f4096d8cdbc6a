/-
  The walk of laws.FnDotHorner: it returns true, for all numbers.
-/
import Derived.Test.YtbhallblmphlmaaHor
import Derived.Test.YtbhallblmphlmaaLawA
import Derived.Test.YtbhallblmphlmaaRow
namespace Go.Proofs.Ytbhallblmphlmaa.LDotHorner
open Go.RowKit Flt

theorem rd_lit (w : World) (x : Nat) (t : TypeId) : Rd (w.alloc (.cells #[.float .f64 x] t)) (w.alloc (.cells #[.float .f64 x] t)).heap.size (some ⟨w.heap.size, 0, none⟩) (fl [x]) := by
  intro j u hu
  match j, hu with
  | 0, hu =>
    simp [fl] at hu
    subst hu
    exact ⟨_, rfl, by simp, by simp [Addr.add]⟩
theorem one_one_one (W : World) : Calls Try.prog 29 #[.float .f64 4607182418800017408, .float .f64 4607182418800017408, .float .f64 4607182418800017408] W fun e w' => (∃ b, e = .returned (.float .f64 b) ∧ (FloatKind.f64.format.order b 4611686018427387904 == some .eq) = true) ∧ Qt W w' := by
  refine (impFMA_any _ _ _ W).mono ?_
  rintro e w' ⟨b, rfl, v, l, q⟩
  refine ⟨⟨b, rfl, ?_⟩, q⟩
  have h1 := ov_fma 4607182418800017408 4607182418800017408 4607182418800017408
  have h2 : Ieee.double.fma 4607182418800017408 4607182418800017408 4607182418800017408 = some 4611686018427387904 := by decide +kernel
  rw [h2] at h1
  have hs := vl_same (v.trans h1.symm)
  rcases (same_iff _ _).1 hs with ⟨_, h⟩ | ⟨n1, n2, h⟩
  · exact absurd h (by decide)
  · rw [c_eq (nan_false.1 n1) (nan_false.1 n2), decide_eq_true h]

set_option maxHeartbeats 1600000 in
theorem walk (w : World) (x : Nat) (hx : x < 2 ^ 64) (y : Nat) (hy : y < 2 ^ 64) (z : Nat) (hz : z < 2 ^ 64) :
    Calls Try.prog 14 #[.float .f64 x, .float .f64 y, .float .f64 z] w fun e' w' => e' = .returned (.bool true) ∧ Below w.heap.size w w' := by
  have _u := hy
  clear _u
  have HF := Lib.hid (impFMA_any x y z w)
  go_enter Try.func14, Try.ntmps14
  go_wp2_with fail
  ((with_reducible refine HF.out.mono ?_); rintro e w1 ⟨b1, rfl, v1, l1, q1⟩; have V1 := Lib.hid v1; clear v1 HF)
  have d1 := (rd_lit w1 x 22).alloc (Nat.le_refl _) (.cells #[.float .f64 y] 22)
  have d2 := rd_lit (w1.alloc (.cells #[.float .f64 x] 22)) y 22
  have HD := Lib.hid (dotVal_any z [x] [y] _ _ 1 1 1 1 _ _ hz rfl rfl (by decide) (by decide) (d1.more (by simp)) d2)
  have hsz : (w1.alloc (.cells #[.float .f64 x] 22)).heap.size = w1.heap.size + 1 := by simp
  rw [hsz] at HD
  clear d1 d2 hsz
  go_wp2_with fail
  ((with_reducible refine HD.out.mono ?_); rintro e w2 ⟨b2, rfl, v2, l2, q2⟩; have V2 := Lib.hid v2; clear v2 HD)
  have HS := Lib.hid (fun W : World => same_any b2 b1 W)
  rw [vl_same (show vl b2 = vl b1 by rw [V2.out, V1.out]; rfl)] at HS
  have HH := Lib.hid (horner_any x y [z] _ 1 1 _ _ hx rfl (by decide) (rd_lit w2 z 22))
  clear V2
  go_wp2_with fail
  ((with_reducible refine (HS.out _).mono ?_); rintro e w' ⟨rfl, rfl⟩)
  go_wp2_with fail
  ((with_reducible refine HH.out.mono ?_); rintro e w3 ⟨b3, rfl, v3, l3, q3⟩; have V3 := Lib.hid v3; clear v3 HH)
  have HS3 := Lib.hid (fun W : World => same_any b3 b1 W)
  rw [vl_same (show vl b3 = vl b1 by rw [V3.out, V1.out]; rfl)] at HS3
  clear V3 V1
  go_wp2_with fail
  ((with_reducible refine (HS3.out _).mono ?_); rintro e w' ⟨rfl, rfl⟩)
  go_wp2_with fail
  ((with_reducible refine (one_one_one _).mono ?_); rintro e w4 ⟨⟨b4, rfl, h4⟩, q4⟩)
  go_wp2
  go_ret
  refine ⟨rfl, ?_⟩
  have s1 := q1.size
  have s2 := q2.size
  simp at s2
  have b1 : Below w.heap.size w w1 := q1.below _
  have b2 := (b1.alloc (by omega) (.cells #[.float .f64 x] 22)).alloc (by simp; omega) (.cells #[.float .f64 y] 22)
  have b3 := (b2.trans (q2.below _)).alloc (by omega) (.cells #[.float .f64 z] 22)
  exact (b3.trans (q3.below _)).trans (q4.below _)
end Go.Proofs.Ytbhallblmphlmaa.LDotHorner
