/-
  'FnTurnWhole' returns true for every input of bulk at most 1048576: the given statement Rows.FnTurnWholeUptoSaid, out of the law's walk. The condition is the statement's own.
-/
import Derived.Test.YtelhgahbhbinoaaBlk
import Derived.Deep.CondSized
import Derived.Test.YtelhgahbhbinoaaLTurnWhole
import Derived.Test.YtelhgahbhbinoaaRow
namespace Go.Proofs.Ytelhgahbhbinoaa.LTurnWhole
open Go.ChangeShapes Go.WideShapes Go.ChangeAt Go.RowKit

set_option linter.unusedVariables false
set_option maxRecDepth 100000 in
theorem lifted (os : Os) (started : os.Started) (H : Type) (enc : TypeId × Value → H) (F : Stop.Interp) :
    ReturnsInHanded {} Try.checked os 14 .any ((Rows.OpenSpec.upto Rows.fnTurnWholeSpec).pre6 enc Try.prog Try.f14 Rows.fnTurnWholeUptoRow.domain false) (((Rows.OpenSpec.upto Rows.fnTurnWholeSpec).at F).post enc Try.prog Try.f14 false true false false) := by
  refine returnsInHanded_of_cond_sized (C := Try.checked) (s := Rows.OpenSpec.upto Rows.fnTurnWholeSpec) (k := Rows.uptoSmall) rfl Try.own started (by kernel_rfl) Try.func14
    (OpenSpec.witness (enc := enc) (C := Try.checked) (s := Rows.OpenSpec.upto Rows.fnTurnWholeSpec) (k := Rows.uptoSmall) rfl false ⟨#[], #[.int .i64 0, .slice none 0 0, .int .i64 0], []⟩ 8 (by kernel_rfl) (by kernel_rfl) (by kernel_rfl)
      (x := ([.lit (.int .i64 0), .nil, .lit (.int .i64 0)], [], [])) (by kernel_rfl) rfl (by kernel_rfl)) ?_
  intro W base args ds gs before hval0 hW0 _ hk hsz0 _
  have hW : DataW.Whole enc Try.prog Try.f14.params.toList Rows.fnTurnWholeSpec.vars false W args.toList ds gs before := hW0
  have hsz : (DataW.weightsEach Try.prog (Try.f14.params.toList ++ Rows.fnTurnWholeSpec.plain.varTypes Try.prog) (ds ++ gs)).all (· ≤ reachBytes) = true := hsz0
  show Calls _ _ _ _ fun e W' => ∃ v, e = .returned v ∧ Rows.fnTurnWholeSpec.post enc Try.prog Try.f14 false true false false W args v W'
  clear hW0
  have hval : ∀ (j : Nat) t v, Try.f14.params[j]? = some t → args[j]? = some v → Value.okWide Try.prog W .any base t v := hval0
  have hW' := hW
  obtain ⟨p, q, hA0, hV, rfl, hfz, hnd⟩ := hW
  have hA : DataW.TrodAll enc Try.prog W 0 (fun _ => true) true Try.f14.params.toList args.toList ds p := hA0
  rw [Try.params14] at hA hval hsz
  obtain ⟨v0, vs0, d0, ds0, p0, q0, hargs, rfl, rfl, h0, r0⟩ := trodAll_cons hA
  obtain ⟨v1, vs1, d1, ds1, p1, q1, rfl, rfl, rfl, h1, r1⟩ := trodAll_cons r0
  obtain ⟨v2, vs2, d2, ds2, p2, q2, rfl, rfl, rfl, h2, r2⟩ := trodAll_cons r1
  obtain ⟨rfl, rfl, rfl⟩ := trodAll_nil r2
  obtain rfl : args = #[v0, v1, v2] := by cases args; simp_all
  obtain ⟨rfl, rfl⟩ := trodVars_none hV
  obtain ⟨a0, rfl, rfl, rfl, w0⟩ := open_int Try.underlying3 (hval 0 3 v0 rfl rfl) h0
  obtain ⟨a1, n1, c1, rfl⟩ := okWide_slice Try.underlying37 (hval 1 37 v1 rfl rfl)
  have k1 := h1
  have lt1 : ∀ x ∈ p1, x.block < W.heap.size := by obtain ⟨m, hm⟩ := k1; exact DataW.trod_lt m _ _ _ hm
  obtain ⟨l1, w1⟩ : ∃ l, IRow W a1 n1 c1 l := by
    obtain ⟨fuel, hf⟩ := h1
    exact open_irow Try.underlying37 Try.underlying3 (by kernel_rfl) (by kernel_rfl) hf hsz (j := 1) rfl rfl
  have bk1 : n1 ≤ 1048576 := by obtain ⟨fuel, hf⟩ := k1; exact Nat.le_trans (bulk_row Try.underlying37 (by kernel_rfl) hf) (bulk_le hk (by simp))
  have nl1 : a1 = none → c1 = 0 := by obtain ⟨fuel, hf⟩ := k1; exact nil_cap Try.underlying37 (by kernel_rfl) hf
  obtain ⟨a2, rfl, rfl, rfl, w2⟩ := open_int Try.underlying3 (hval 2 3 v2 rfl rfl) h2
  clear hA0 hval0
  refine (walk W a0 (wf_i64 w0) a1 n1 c1 l1 w1 bk1 nl1 a2 (wf_i64 w2)).mono fun e W' ⟨he, bel⟩ => ?_
  subst he
  exact ⟨_, rfl, _, _, _, [], _, [], hW', trodAll_mk1 (shut_bool Try.underlying4 _), (trodAll_cons_mk (shut_int Try.underlying3 w0) (trodAll_cons_mk (Below.trod Try.laidOut (by kernel_rfl) (of_decide_eq_true (by kernel_rfl)) k1 bel lt1) (trodAll_cons_mk (shut_int Try.underlying3 w2) trodAll_mk0))), rfl, bel.frame _, fun h => by cases h⟩

theorem over : Rows.FnTurnWholeUptoSaid :=
  OpenClaim.holds_of_cond 14 Try.f14 rfl rfl rfl rfl rfl rfl rfl ⟨rfl, rfl, rfl, rfl, rfl⟩ rfl rfl rfl rfl rfl (by kernel_rfl) Try.func14 (by kernel_rfl)
    (of_decide_eq_true (by kernel_rfl)) (by unfold Func.isWrapper; first | (rw [if_pos (by decide +kernel)]; kernel_rfl) | (rw [if_neg (by decide +kernel)]; exact ⟨rfl, rfl⟩))
    (fun os started H enc _ F => lifted os started H enc F)
end Go.Proofs.Ytelhgahbhbinoaa.LTurnWhole

namespace Go.Proofs.Ytelhgahbhbinoaa
/-- The statement. -/
theorem fnTurnWholeUpto_holds : Rows.FnTurnWholeUptoSaid := LTurnWhole.over
#print axioms fnTurnWholeUpto_holds
end Go.Proofs.Ytelhgahbhbinoaa
