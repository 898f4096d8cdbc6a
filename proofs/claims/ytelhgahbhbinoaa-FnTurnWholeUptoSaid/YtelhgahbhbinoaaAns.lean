/-
  Sums, products and FMA as the program runs them, whatever comes of them: a value, or some NaN that is drawn.
-/
import Derived.Test.YtelhgahbhbinoaaRows
import Derived.Test.YtelhgahbhbinoaaMem
import Derived.Test.YtelhgahbhbinoaaFva
import Derived.Test.YtelhgahbhbinoaaFln
import Derived.Laws.Externs
namespace Go.Proofs.Ytelhgahbhbinoaa
open Go.RowKit Flt Ieee

/-- an operation gives a word of this value, and may draw -/
structure Ans (V : Val) (g : World → Nat) (g' : World → World) : Prop where
  val : ∀ w, vl (g w) = V
  lt : ∀ w, g w < 2 ^ 64
  qt : ∀ w, Qt w (g' w)

theorem write_num_lt (s : Bool) (m : Nat) (i : Int) : double.write (.number s m i) < 2 ^ 64 := by
  show double.nearest s m i < 2 ^ 64
  rcases Int.lt_or_le (i + 1074) 0 with h | h
  · rw [nearest_eq s m i 0 (-(i + 1074)).toNat (by omega)]; exact mk_lt _ (min_INF_lt _)
  · rw [nearest_eq s m i (i + 1074).toNat 0 (by omega)]; exact mk_lt _ (min_INF_lt _)
theorem write_inf_lt (s : Bool) : double.write (.infinity s) < 2 ^ 64 := by cases s <;> decide
theorem sum_lt {a b d : Datum} (h : Datum.sum a b = some d) : double.write d < 2 ^ 64 := by
  cases a <;> cases b <;> simp only [Datum.sum] at h
  case number.number => injection h with h; rw [← h]; exact write_num_lt _ _ _
  case number.infinity => injection h with h; rw [← h]; exact write_inf_lt _
  case infinity.number => injection h with h; rw [← h]; exact write_inf_lt _
  case infinity.infinity =>
    split at h
    · injection h with h; rw [← h]; exact write_inf_lt _
    · cases h
  all_goals cases h
theorem product_lt {a b d : Datum} (h : Datum.product a b = some d) : double.write d < 2 ^ 64 := by
  cases a <;> cases b <;> simp only [Datum.product] at h
  case number.number => injection h with h; rw [← h]; exact write_num_lt _ _ _
  case number.infinity =>
    split at h
    · cases h
    · injection h with h; rw [← h]; exact write_inf_lt _
  case infinity.number =>
    split at h
    · cases h
    · injection h with h; rw [← h]; exact write_inf_lt _
  case infinity.infinity => injection h with h; rw [← h]; exact write_inf_lt _
  all_goals cases h
theorem add_lt {x y r : Nat} (h : double.add x y = some r) : r < 2 ^ 64 := by
  unfold Format.add at h
  cases hs : (double.read x).sum (double.read y) with
  | none => rw [hs] at h; cases h
  | some d => rw [hs] at h; injection h with h; rw [← h]; exact sum_lt hs
theorem mul_lt {x y r : Nat} (h : double.mul x y = some r) : r < 2 ^ 64 := by
  unfold Format.mul at h
  cases hs : (double.read x).product (double.read y) with
  | none => rw [hs] at h; cases h
  | some d => rw [hs] at h; injection h with h; rw [← h]; exact product_lt hs
theorem fma_lt {x y z r : Nat} (h : double.fma x y z = some r) : r < 2 ^ 64 := by
  unfold Format.fma at h
  cases hs : ((double.read x).product (double.read y)).bind (·.sum (double.read z)) with
  | none => rw [hs] at h; cases h
  | some d =>
    rw [hs] at h; injection h with h; rw [← h]
    cases hp : (double.read x).product (double.read y) with
    | none => rw [hp] at hs; cases hs
    | some e => rw [hp] at hs; exact sum_lt hs

theorem ans_nan (f : World → Nat) (hf : ∀ w, nan (f w) = true) (hl : ∀ w, f w < 2 ^ 64) : Ans .nan f World.drew :=
  ⟨fun w => vl_nan (nan_true.1 (hf w)), hl, fun w => (Qt.refl w).drew⟩
theorem ans_some {r : Nat} (h : r < 2 ^ 64) : Ans (vl r) (fun _ => r) id := ⟨fun _ => rfl, fun _ => h, fun w => Qt.refl w⟩

theorem add_ans (x y : Nat) : ∃ (g : World → Nat) (g' : World → World), (∀ w, (binOp .add 23 (.float .f64 x) (.float .f64 y)).run Try.prog w = .ok (.float .f64 (g w)) (g' w)) ∧ Ans (addv (vl x) (vl y)) g g' := by
  have ho := ov_add x y
  cases h : double.add x y with
  | none =>
    rw [h] at ho
    rw [← ho]
    exact ⟨_, _, fun w => run_float_nan (Or.inl rfl) h w, ans_nan _ (fun w => nan_nb w x y) (fun w => nb_lt w x y)⟩
  | some r =>
    rw [h] at ho
    rw [← ho]
    exact ⟨_, _, fun w => run_float_arith w .add _ .f64 x y r h, ans_some (add_lt h)⟩
theorem mul_ans (x y : Nat) : ∃ (g : World → Nat) (g' : World → World), (∀ w, (binOp .mul 23 (.float .f64 x) (.float .f64 y)).run Try.prog w = .ok (.float .f64 (g w)) (g' w)) ∧ Ans (mulv (vl x) (vl y)) g g' := by
  have ho := ov_mul x y
  cases h : double.mul x y with
  | none =>
    rw [h] at ho
    rw [← ho]
    exact ⟨_, _, fun w => run_float_nan (Or.inr (Or.inr (Or.inl rfl))) h w, ans_nan _ (fun w => nan_nb w x y) (fun w => nb_lt w x y)⟩
  | some r =>
    rw [h] at ho
    rw [← ho]
    exact ⟨_, _, fun w => run_float_arith w .mul _ .f64 x y r h, ans_some (mul_lt h)⟩

theorem ext_fma' : Extern.find Try.f31 = some Extern.MathFMA.fma := by kernel_rfl
theorem fma_form2 (x y z : Nat) : Extern.MathFMA.fma #[.float .f64 x, .float .f64 y, .float .f64 z] = (match double.fma x y z with
    | some r => pure (.float .f64 r)
    | none => (match (if Extern.MathFMA.isNaN x then (x, y) else if Extern.MathFMA.isNaN y then (y, z) else (z, z)) with
      | (a, b) => do pure (.float .f64 (← choose (.nanBits .f64 a b))))) := rfl
theorem fma_none {x y z : Nat} (h : double.fma x y z = none) : ∃ p q : Nat, ∀ w, (callFunc 31 #[.float .f64 x, .float .f64 y, .float .f64 z]).run Try.prog w = .ok (.value (.float .f64 (nb w p q))) w.drew := by
  obtain ⟨p, q, hpq⟩ : ∃ p q : Nat, (if Extern.MathFMA.isNaN x then (x, y) else if Extern.MathFMA.isNaN y then (y, z) else (z, z)) = (p, q) := ⟨_, _, rfl⟩
  refine ⟨p, q, fun w => ?_⟩
  rw [run_callFunc_extern Try.func31 (by kernel_rfl) (by kernel_rfl) (by kernel_rfl) ext_fma']
  have hf : (Question.nanBits .f64 p q).forced = false := rfl
  rw [fma_form2, h, hpq]
  simp [hf]
  rfl
theorem fma_some {x y z r : Nat} (h : double.fma x y z = some r) (w : World) : (callFunc 31 #[.float .f64 x, .float .f64 y, .float .f64 z]).run Try.prog w = .ok (.value (.float .f64 r)) w := by
  rw [run_callFunc_extern Try.func31 (by kernel_rfl) (by kernel_rfl) (by kernel_rfl) ext_fma']
  rw [fma_form2, h]
  rfl
theorem fma_ans (x y z : Nat) : ∃ (g : World → Nat) (g' : World → World), (∀ w, (callFunc 31 #[.float .f64 x, .float .f64 y, .float .f64 z]).run Try.prog w = .ok (.value (.float .f64 (g w))) (g' w)) ∧ Ans (fmv (vl x) (vl y) (vl z)) g g' := by
  have ho := ov_fma x y z
  cases h : double.fma x y z with
  | none =>
    rw [h] at ho
    rw [← ho]
    obtain ⟨p, q, hpq⟩ := fma_none h
    exact ⟨_, _, hpq, ans_nan _ (fun w => nan_nb w p q) (fun w => nb_lt w p q)⟩
  | some r =>
    rw [h] at ho
    rw [← ho]
    exact ⟨_, _, fun w => fma_some h w, ans_some (fma_lt h)⟩
end Go.Proofs.Ytelhgahbhbinoaa
