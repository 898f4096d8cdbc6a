/-
  What the bound of an '..UptoSaid' statement gives: the lengths of the slices that came in.
-/
import Derived.Test.YtelhgahbhbinoaaRow
namespace Go.Proofs.Ytelhgahbhbinoaa
open Go.ChangeShapes Go.WideShapes Go.ChangeAt Go.RowKit Go.Deep

theorem bulk_one {H : Type} (d : DataW H) : 1 ≤ Rows.uptoBulk d := by
  cases d with
  | lit l => cases l <;> simp [Rows.uptoBulk]
  | nil => simp [Rows.uptoBulk]
  | ptr d => simp [Rows.uptoBulk]
  | slice elems spare => simp [Rows.uptoBulk]
  | agg parts => simp [Rows.uptoBulk]
  | iface t d => simp [Rows.uptoBulk]
  | map entries => simp [Rows.uptoBulk]
  | held h => simp [Rows.uptoBulk]
theorem bulk_part {H : Type} {d : DataW H} {l : List (DataW H)} (h : d ∈ l) : Rows.uptoBulk d ≤ Rows.uptoBulkAll l := by
  induction l with
  | nil => cases h
  | cons x r ih =>
    simp only [Rows.uptoBulkAll]
    cases List.mem_cons.1 h with
    | inl e => subst e; omega
    | inr e => have := ih e; omega
theorem bulk_len {H : Type} (l : List (DataW H)) : l.length ≤ Rows.uptoBulkAll l := by
  induction l with
  | nil => simp [Rows.uptoBulkAll]
  | cons x r ih => have := bulk_one x; simp only [Rows.uptoBulkAll, List.length_cons]; omega
theorem bulk_le {H : Type} {l : List (DataW H)} (hk : Rows.uptoSmall H l = true) {d : DataW H} (hd : d ∈ l) : Rows.uptoBulk d ≤ 1048576 := by
  have h : Rows.uptoBulkAll l ≤ 1048576 := of_decide_eq_true hk
  exact Nat.le_trans (bulk_part hd) h
theorem bulk_row {H : Type} {enc : TypeId × Value → H} {P : Program} {w : World} {base : Nat} {spare : Nat → Bool} {held : Bool} {t e : TypeId} {a : Option Addr} {len cap fuel : Nat} {x : DataW H × List MemPlace}
    (ht : P.underlying t = some (.slice e)) (hc : P.cellsOf e = 1) (h : DataW.trod enc P w base spare held fuel t [.slice a len cap] = some x) : len ≤ Rows.uptoBulk x.1 := by
  rcases open_slice1 ht hc h with ⟨hcs, _⟩ | ⟨ad, len', cap', m, n, V, D, Pl, hcs, _, _, _, _, hx, _⟩
  · simp at hcs
    omega
  · simp at hcs
    obtain ⟨_, rfl, rfl⟩ := hcs
    rw [hx]
    simp only [Rows.uptoBulk]
    have := bulk_len ((List.range len).map D)
    rw [List.length_map, List.length_range] at this
    omega
theorem nil_cap {H : Type} {enc : TypeId × Value → H} {P : Program} {w : World} {base : Nat} {spare : Nat → Bool} {held : Bool} {t e : TypeId} {a : Option Addr} {len cap fuel : Nat} {x : DataW H × List MemPlace}
    (ht : P.underlying t = some (.slice e)) (hc : P.cellsOf e = 1) (h : DataW.trod enc P w base spare held fuel t [.slice a len cap] = some x) : a = none → cap = 0 := by
  rcases open_slice1 ht hc h with ⟨hcs, _⟩ | ⟨ad, len', cap', m, n, V, D, Pl, hcs, _, _, _, _, hx, _⟩
  · simp at hcs
    exact fun _ => hcs.2.2
  · simp at hcs
    obtain ⟨rfl, _, _⟩ := hcs
    exact fun h => by cases h
end Go.Proofs.Ytelhgahbhbinoaa
