/-
  Contract of impl.Digits.
-/
import Derived.Test.YtelhgahbhbinoaaMdf
import Derived.Test.YtelhgahbhbinoaaImpA
namespace Go.Proofs.Ytelhgahbhbinoaa
open Go.RowKit Flt

theorem run_m {op : BinOp} {x y : Nat} (hop : op = .add ∨ op = .sub ∨ op = .mul ∨ op = .quo) (h : floatBits op .f64 x y = none) (w : World) : (binOp op 23 (.float .f64 x) (.float .f64 y)).run Try.prog w = .ok (.float .f64 (nb w x y)) w.drew := run_float_nan hop h w
theorem toI64_run {b : Nat} {n : Int} (h : floatToIntVal .f64 b .i64 = some n) (w : World) : (convert 23 3 (.float .f64 b)).run Try.prog w = .ok (.int .i64 n) w :=
  run_convert_float_int w _ _ .f64 .i64 b n (by rw [Try.underlying23]; rfl) Try.underlying3 h

theorem Try.infoI : (Try.prog.info? 3).map (fun i => (i.zero, i.size, i.bytes)) = some (some (.int .i64 0), 1, 8) := by kernel_rfl

/-- the digits of a number by its sign and magnitude -/
def digL (s : Bool) (n N : Nat) : List Int := (List.range N).map fun i => sdg s n (i + 1)
theorem digL_len (s : Bool) (n N : Nat) : (digL s n N).length = N := by simp [digL]
theorem digL_succ (s : Bool) (n N : Nat) : digL s n (N + 1) = digL s n N ++ [sdg s n (N + 1)] := by
  unfold digL; rw [List.range_succ, List.map_append]; rfl
theorem digL_get {s : Bool} {n N k : Nat} (h : k < N) : (digL s n N).getD k 0 = sdg s n (k + 1) := by
  unfold digL
  rw [List.getD_eq_getElem?_getD, List.getElem?_map, List.getElem?_range h]; rfl

/-- where impl.Digits has come to: the word holds the fraction behind k digits -/
structure DigSt (s : Bool) (n k x : Nat) : Prop where
  lt : x < 2 ^ 64
  fin : rg x < INF
  sign : sg x = s
  val : rv (rg x) = n * 2 ^ k % U

theorem DigSt.start {x : Nat} (hf : rg x < INF) : DigSt (sg x) (rv (rg x)) 0 (fpart x) :=
  ⟨fpart_lt hf, fin_fpart hf, sg_fpart hf, by rw [rv_fpart hf]; simp⟩

theorem DigSt.step {s : Bool} {n k x : Nat} (h : DigSt s n k x) : ∃ y, floatBits .add .f64 x x = some y ∧ y < 2 ^ 64 ∧ rg y < INF ∧ DigSt s n (k + 1) (fpart y) ∧ floatToIntVal .f64 (ipart y) .i64 = some (sdg s n (k + 1)) := by
  have hU := U_pos
  have hlt : rv (rg x) < U := by rw [h.val]; exact Nat.mod_lt _ hU
  obtain ⟨y, h1, h2, h3, h4, h5⟩ := add_self_frac hlt h.fin
  refine ⟨y, h1, h2, h4, ⟨fpart_lt h4, fin_fpart h4, by rw [sg_fpart h4, h3, h.sign], by rw [rv_fpart h4, h5, h.val, frac_step]⟩, ?_⟩
  have hq : rv (rg y) / U = dg n (k + 1) := by rw [h5, h.val, dg_step]
  have := toI64_ipart h4 (by rw [hq]; exact dg_lt _ _)
  rw [hq, h3, h.sign] at this
  exact this

theorem sdg_bd (s : Bool) (n i : Nat) : -1 ≤ sdg s n i ∧ sdg s n i ≤ 1 := by
  have := dg_lt n i
  unfold sdg; split <;> omega

/-- the digits of a word -/
def digW (x : Nat) (n : Int) : List Int := if rg x < INF then digL (sg x) (rv (rg x)) (n % 1200).toNat else []
end Go.Proofs.Ytelhgahbhbinoaa
