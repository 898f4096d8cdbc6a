/-
  Contracts of impl.Horner, impl.Dot and impl.FMA, on values.
-/
import Derived.Test.YtmhdjhfkndfhmaaAns
namespace Go.Proofs.Ytmhdjhfkndfhmaa
open Go.RowKit Flt

/-- a word of this value comes back, and nothing but draws has been made -/
def FmGives (V : Val) (w : World) (e : Ending) (w' : World) : Prop := ∃ b, e = .returned (.float .f64 b) ∧ vl b = V ∧ b < 2 ^ 64 ∧ Qt w w'
theorem vl_take_snoc {xs : List Nat} {k : Nat} (h : k < xs.length) : (xs.take (k + 1)).map vl = (xs.take k).map vl ++ [vl (xs.getD k 0)] := by
  rw [take_snoc xs k 0 h, List.map_append]; rfl

/-- the value of a polynomial, with one rounding at each step -/
def horv (x s : Val) (l : List Val) : Val := l.foldl (fun a c => fmv a x c) s
theorem horv_snoc (x s : Val) (l : List Val) (c : Val) : horv x s (l ++ [c]) = fmv (horv x s l) x c := by
  unfold horv; rw [List.foldl_append]; rfl
theorem horv_append (x s : Val) (l m : List Val) : horv x s (l ++ m) = horv x (horv x s l) m := by
  unfold horv; rw [List.foldl_append]

/-- a sum of products, with one rounding at each step -/
def dotv (s : Val) (l : List (Val × Val)) : Val := l.foldl (fun a p => fmv p.1 p.2 a) s
theorem dotv_snoc (s : Val) (l : List (Val × Val)) (p : Val × Val) : dotv s (l ++ [p]) = fmv p.1 p.2 (dotv s l) := by
  unfold dotv; rw [List.foldl_append]; rfl
theorem dotv_append (s : Val) (l m : List (Val × Val)) : dotv s (l ++ m) = dotv (dotv s l) m := by
  unfold dotv; rw [List.foldl_append]
/-- the pairs of values at the same places -/
def prs (xs ys : List Nat) : List (Val × Val) := (xs.map vl).zip (ys.map vl)
theorem prs_len (xs ys : List Nat) : (prs xs ys).length = min xs.length ys.length := by unfold prs; rw [List.length_zip, List.length_map, List.length_map]
theorem prs_get {xs ys : List Nat} {k : Nat} (h1 : k < xs.length) (h2 : k < ys.length) : (prs xs ys)[k]? = some (vl (xs.getD k 0), vl (ys.getD k 0)) := by
  unfold prs
  rw [List.getElem?_eq_getElem (by rw [List.length_zip, List.length_map, List.length_map]; omega), List.getElem_zip, List.getElem_map, List.getElem_map, List.getD_eq_getElem?_getD, List.getD_eq_getElem?_getD, List.getElem?_eq_getElem h1, List.getElem?_eq_getElem h2]
  rfl
theorem prs_snoc {xs ys : List Nat} {k : Nat} (h1 : k < xs.length) (h2 : k < ys.length) : (prs xs ys).take (k + 1) = (prs xs ys).take k ++ [(vl (xs.getD k 0), vl (ys.getD k 0))] := by
  have hl : k < (prs xs ys).length := by rw [prs_len]; omega
  have h := prs_get h1 h2
  rw [List.getElem?_eq_getElem hl] at h
  rw [List.take_succ_eq_append_getElem hl, Option.some.inj h]

theorem one_three : (FloatKind.f64.format.order 4607182418800017408 4607182418800017408 == some .eq) = true := by
  rw [c_self']; rfl
end Go.Proofs.Ytmhdjhfkndfhmaa
