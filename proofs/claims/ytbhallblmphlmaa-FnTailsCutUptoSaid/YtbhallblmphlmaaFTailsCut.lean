/-
  'FnTailsCut' returns true for every input of bulk at most 1048576: the given statement Rows.FnTailsCutUptoSaid, out of the law's walk. The condition is the statement's own.
-/
import Derived.Test.YtbhallblmphlmaaBlk
import Derived.Deep.CondSized
import Derived.Test.YtbhallblmphlmaaLTailsCut
import Derived.Test.YtbhallblmphlmaaRow
namespace Go.Proofs.Ytbhallblmphlmaa.LTailsCut
open Go.ChangeShapes Go.WideShapes Go.ChangeAt Go.RowKit

set_option linter.unusedVariables false
set_option maxRecDepth 100000 in
theorem lifted (os : Os) (started : os.Started) (H : Type) (enc : TypeId × Value → H) (F : Stop.Interp) :
    ReturnsInHanded {} Try.checked os 12 .any ((Rows.OpenSpec.upto Rows.fnTailsCutSpec).pre6 enc Try.prog Try.f12 Rows.fnTailsCutUptoRow.domain false) (((Rows.OpenSpec.upto Rows.fnTailsCutSpec).at F).post enc Try.prog Try.f12 false true false false) := by
  refine returnsInHanded_of_cond_sized (C := Try.checked) (s := Rows.OpenSpec.upto Rows.fnTailsCutSpec) (k := Rows.uptoSmall) rfl Try.own started (by kernel_rfl) Try.func12
    (OpenSpec.witness (enc := enc) (C := Try.checked) (s := Rows.OpenSpec.upto Rows.fnTailsCutSpec) (k := Rows.uptoSmall) rfl false ⟨#[], #[.float .f64 0, .slice none 0 0, .slice none 0 0], []⟩ 8 (by kernel_rfl) (by kernel_rfl) (by kernel_rfl)
      (x := ([.lit (.float .f64 0), .nil, .nil], [], [])) (by kernel_rfl) rfl (by kernel_rfl)) ?_
  intro W base args ds gs before hval0 hW0 _ hk hsz0 _
  have hW : DataW.Whole enc Try.prog Try.f12.params.toList Rows.fnTailsCutSpec.vars false W args.toList ds gs before := hW0
  have hsz : (DataW.weightsEach Try.prog (Try.f12.params.toList ++ Rows.fnTailsCutSpec.plain.varTypes Try.prog) (ds ++ gs)).all (· ≤ reachBytes) = true := hsz0
  show Calls _ _ _ _ fun e W' => ∃ v, e = .returned v ∧ Rows.fnTailsCutSpec.post enc Try.prog Try.f12 false true false false W args v W'
  clear hW0
  have hval : ∀ (j : Nat) t v, Try.f12.params[j]? = some t → args[j]? = some v → Value.okWide Try.prog W .any base t v := hval0
  have hW' := hW
  obtain ⟨p, q, hA0, hV, rfl, hfz, hnd⟩ := hW
  have hA : DataW.TrodAll enc Try.prog W 0 (fun _ => true) true Try.f12.params.toList args.toList ds p := hA0
  rw [Try.params12] at hA hval hsz
  obtain ⟨v0, vs0, d0, ds0, p0, q0, hargs, rfl, rfl, h0, r0⟩ := trodAll_cons hA
  obtain ⟨v1, vs1, d1, ds1, p1, q1, rfl, rfl, rfl, h1, r1⟩ := trodAll_cons r0
  obtain ⟨v2, vs2, d2, ds2, p2, q2, rfl, rfl, rfl, h2, r2⟩ := trodAll_cons r1
  obtain ⟨rfl, rfl, rfl⟩ := trodAll_nil r2
  obtain rfl : args = #[v0, v1, v2] := by cases args; simp_all
  obtain ⟨rfl, rfl⟩ := trodVars_none hV
  obtain ⟨a0, rfl, rfl, rfl, w0⟩ := open_float Try.underlying22 (hval 0 22 v0 rfl rfl) h0
  obtain ⟨a1, n1, c1, rfl⟩ := okWide_slice Try.underlying23 (hval 1 23 v1 rfl rfl)
  have k1 := h1
  have lt1 : ∀ x ∈ p1, x.block < W.heap.size := by obtain ⟨m, hm⟩ := k1; exact DataW.trod_lt m _ _ _ hm
  obtain ⟨l1, w1⟩ : ∃ l, FRow W a1 n1 c1 l := by
    obtain ⟨fuel, hf⟩ := h1
    exact open_frow Try.underlying23 Try.underlying22 (by kernel_rfl) (by kernel_rfl) hf hsz (j := 1) rfl rfl
  have bk1 : n1 ≤ 1048576 := by obtain ⟨fuel, hf⟩ := k1; exact Nat.le_trans (bulk_row Try.underlying23 (by kernel_rfl) hf) (bulk_le hk (by simp))
  have nl1 : a1 = none → c1 = 0 := by obtain ⟨fuel, hf⟩ := k1; exact nil_cap Try.underlying23 (by kernel_rfl) hf
  obtain ⟨a2, n2, c2, rfl⟩ := okWide_slice Try.underlying23 (hval 2 23 v2 rfl rfl)
  have k2 := h2
  have lt2 : ∀ x ∈ p2, x.block < W.heap.size := by obtain ⟨m, hm⟩ := k2; exact DataW.trod_lt m _ _ _ hm
  obtain ⟨l2, w2⟩ : ∃ l, FRow W a2 n2 c2 l := by
    obtain ⟨fuel, hf⟩ := h2
    exact open_frow Try.underlying23 Try.underlying22 (by kernel_rfl) (by kernel_rfl) hf hsz (j := 2) rfl rfl
  have bk2 : n2 ≤ 1048576 := by obtain ⟨fuel, hf⟩ := k2; exact Nat.le_trans (bulk_row Try.underlying23 (by kernel_rfl) hf) (bulk_le hk (by simp))
  have nl2 : a2 = none → c2 = 0 := by obtain ⟨fuel, hf⟩ := k2; exact nil_cap Try.underlying23 (by kernel_rfl) hf
  clear hA0 hval0
  refine (walk W a0 (wf_f64 w0) a1 n1 c1 l1 w1 bk1 nl1 a2 n2 c2 l2 w2 bk2 nl2).mono fun e W' ⟨he, bel⟩ => ?_
  subst he
  exact ⟨_, rfl, _, _, _, [], _, [], hW', trodAll_mk1 (shut_bool Try.underlying4 _), (trodAll_cons_mk (shut_float Try.underlying22 w0) (trodAll_cons_mk (Below.trod Try.laidOut (by kernel_rfl) (of_decide_eq_true (by kernel_rfl)) k1 bel lt1) (trodAll_cons_mk (Below.trod Try.laidOut (by kernel_rfl) (of_decide_eq_true (by kernel_rfl)) k2 bel lt2) trodAll_mk0))), rfl, bel.frame _, fun h => by cases h⟩

theorem over : Rows.FnTailsCutUptoSaid :=
  OpenClaim.holds_of_cond 12 Try.f12 rfl rfl rfl rfl rfl rfl rfl ⟨rfl, rfl, rfl, rfl, rfl⟩ rfl rfl rfl rfl rfl (by kernel_rfl) Try.func12 (by kernel_rfl)
    (of_decide_eq_true (by kernel_rfl)) (by unfold Func.isWrapper; first | (rw [if_pos (by decide +kernel)]; kernel_rfl) | (rw [if_neg (by decide +kernel)]; exact ⟨rfl, rfl⟩))
    (fun os started H enc _ F => lifted os started H enc F)
end Go.Proofs.Ytbhallblmphlmaa.LTailsCut

namespace Go.Proofs.Ytbhallblmphlmaa
/-- The statement. -/
theorem fnTailsCutUpto_holds : Rows.FnTailsCutUptoSaid := LTailsCut.over
#print axioms fnTailsCutUpto_holds
end Go.Proofs.Ytbhallblmphlmaa
