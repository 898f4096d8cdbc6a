/-
  Words for memory: a slice that reads as a list of values (nil let in), and how it stays readable.
-/
import Derived.WalkKit
import Derived.WalkSpells
import Derived.WalkLawsBesides
import Derived.Lib.Hide
import Derived.Deep.Draws
import Derived.Deep.QuietTactic
import Derived.BigQuiet
namespace Go.Proofs.Ytelhgahbhbinoaa
open Go.RowKit

theorem blk_add (a : Addr) (n : Nat) : (a.add n).block = a.block := by unfold Addr.add; split <;> rfl
theorem add_add (a : Addr) (i j : Nat) : (a.add i).add j = a.add (i + j) := by
  unfold Addr.add
  by_cases hi : i = 0 <;> by_cases hj : j = 0 <;> simp [hi, hj, Nat.add_assoc]

/-- the slice value '.slice A xs.length c' holds the values 'xs' (a cell each), below block 'B' -/
def Rd (w : World) (B : Nat) (A : Option Addr) (xs : List Value) : Prop :=
  ∀ j u, xs[j]? = some u → ∃ ad, A = some ad ∧ ad.block < B ∧ w.cell? (ad.add j) = some u

section
variable {w w' : World} {B B' : Nat} {A : Option Addr} {xs : List Value}
theorem Rd.nil : Rd w B A [] := fun j u h => by simp at h
theorem Rd.at (h : Rd w B A xs) {k : Nat} (hk : k < xs.length) : ∃ ad, A = some ad ∧ ad.block < B ∧ w.cell? (ad.add k) = some xs[k] :=
  h k _ (List.getElem?_eq_getElem hk)
theorem Rd.keep (h : Rd w B A xs) (hk : ∀ p : Addr, p.block < B → w'.cell? p = w.cell? p) : Rd w' B A xs := fun j u hu => by
  obtain ⟨ad, e, hb, hc⟩ := h j u hu
  exact ⟨ad, e, hb, (hk _ (by rw [blk_add]; exact hb)).trans hc⟩
theorem Rd.more (h : Rd w B A xs) (hB : B ≤ B') : Rd w B' A xs := fun j u hu => by
  obtain ⟨ad, e, hb, hc⟩ := h j u hu
  exact ⟨ad, e, by omega, hc⟩
theorem Rd.below (h : Rd w B A xs) (hb : Below B w w') : Rd w' B A xs := h.keep fun _ hp => hb.cell hp
theorem Rd.below' {C : Nat} (h : Rd w B A xs) (hb : Below C w w') (hB : B ≤ C) : Rd w' B A xs := h.below (hb.mono hB)
theorem Rd.drew (h : Rd w B A xs) : Rd w.drew B A xs := h
theorem Rd.drewN (h : Rd w B A xs) (k : Nat) : Rd (w.drewN k) B A xs := h
theorem Rd.alloc (h : Rd w B A xs) (hB : B ≤ w.heap.size) (o : Obj) : Rd (w.alloc o) B A xs := h.keep fun p hp => World.cell?_alloc_lt w o p (by omega)
theorem Rd.of_own {base : Nat} {e : TypeId} {c : Nat} (h : w.ownsRow base e 1 (.slice A xs.length c) xs.length xs) : Rd w w.heap.size A xs := fun j u hu => by
  have hj : j < xs.length := by
    rcases Nat.lt_or_ge j xs.length with h1 | h1
    · exact h1
    · rw [List.getElem?_eq_none h1] at hu; cases hu
  rcases h.2 with ⟨_, h0⟩ | ⟨g, cap, cur, hv, _, hh, _⟩
  · omega
  · have hA : A = some ⟨g, 0, none⟩ := by injection hv
    subst hA
    refine ⟨_, rfl, ?_, h.cells (g := g) rfl j u hu⟩
    rcases Nat.lt_or_ge g w.heap.size with hlt | hge
    · exact hlt
    · rw [Array.getElem?_eq_none hge] at hh; cases hh
theorem Rd.drop (h : Rd w B A xs) {k cap : Nat} (hc : xs.length ≤ cap) (hk : k ≤ xs.length) : Rd w B (if cap = k then A else A.map (·.add k)) (xs.drop k) := fun j u hu => by
  rw [List.getElem?_drop] at hu
  obtain ⟨ad, rfl, hb, hcell⟩ := h _ u hu
  have hl : k + j < xs.length := by
    rcases Nat.lt_or_ge (k + j) xs.length with h1 | h1
    · exact h1
    · rw [List.getElem?_eq_none h1] at hu; cases hu
  rw [if_neg (by omega)]
  exact ⟨ad.add k, rfl, by rw [blk_add]; exact hb, by rw [add_add]; exact hcell⟩
theorem Rd.take (h : Rd w B A xs) (k : Nat) : Rd w B A (xs.take k) := fun j u hu => by
  rcases Nat.lt_or_ge j k with h1 | h1
  · rw [List.getElem?_take, if_pos h1] at hu
    exact h j u hu
  · rw [List.getElem?_take, if_neg (by omega)] at hu; cases hu
end

/-- only draws have been made -/
def Qt (w w' : World) : Prop := ∃ q, w' = w.drewN q
theorem Qt.refl (w : World) : Qt w w := ⟨0, rfl⟩
theorem Qt.trans {a b c : World} (h : Qt a b) (k : Qt b c) : Qt a c := by
  obtain ⟨n, rfl⟩ := h; obtain ⟨m, rfl⟩ := k; exact ⟨n + m, World.drewN_drewN ..⟩
theorem Qt.drewN {a b : World} (h : Qt a b) (n : Nat) : Qt a (b.drewN n) := h.trans ⟨n, rfl⟩
theorem Qt.drew {a b : World} (h : Qt a b) : Qt a b.drew := h.drewN 1
theorem Qt.below {a b : World} (h : Qt a b) (B : Nat) : Below B a b := by
  obtain ⟨n, rfl⟩ := h; exact ⟨rfl, rfl, rfl, Nat.le_refl _, fun _ _ => rfl⟩
theorem Qt.cell {a b : World} (h : Qt a b) (p : Addr) : b.cell? p = a.cell? p := by
  obtain ⟨n, rfl⟩ := h; rfl
theorem Qt.frozen {a b : World} (h : Qt a b) (p : Addr) : b.frozen? p = a.frozen? p := by
  obtain ⟨n, rfl⟩ := h; rfl
theorem Qt.size {a b : World} (h : Qt a b) : b.heap.size = a.heap.size := by
  obtain ⟨n, rfl⟩ := h; rfl
theorem Qt.own {a b : World} (h : Qt a b) {base : Nat} {e : TypeId} {size : Nat} {v : Value} {n : Nat} {xs : List Value} (ho : a.ownsRow base e size v n xs) : b.ownsRow base e size v n xs := by
  obtain ⟨m, rfl⟩ := h; exact ho
theorem Rd.qt {w w' : World} {B : Nat} {A : Option Addr} {xs : List Value} (h : Rd w B A xs) (hq : Qt w w') : Rd w' B A xs := h.keep fun p _ => hq.cell p

/-- a contract that leaves the world alone, for 'go_quiet' -/
theorem quiet_w {P : Program} {f : FuncId} {args : Array Value} {w : World} {n : Nat} {v : Value}
    (h : Calls P f args (w.drewN n) fun e w' => e = .returned v ∧ w.drewN n = w') : Calls P f args (w.drewN n) fun e w'' => e = .returned v ∧ ∃ m, w'' = w.drewN m :=
  h.mono fun _ _ ⟨he, hm⟩ => ⟨he, n, hm.symm⟩
/-- a contract that only draws, for 'go_quiet' -/
theorem quiet_q {P : Program} {f : FuncId} {args : Array Value} {w : World} {n : Nat} {v : Value}
    (h : Calls P f args (w.drewN n) fun e w' => e = .returned v ∧ Qt (w.drewN n) w') : Calls P f args (w.drewN n) fun e w'' => e = .returned v ∧ ∃ m, w'' = w.drewN m :=
  h.mono fun _ _ ⟨he, m, hm⟩ => ⟨he, n + m, by rw [hm, World.drewN_drewN]⟩

/-- what a call gives that hands back a new row: the row, which it owns; nothing that was there has turned -/
def NewRow (E : TypeId) (B : Nat) (w : World) (xs : List Value) (e : Ending) (w' : World) : Prop :=
  ∃ A c, e = .returned (.slice A xs.length c) ∧ xs.length ≤ c ∧ w'.ownsRow B E 1 (.slice A xs.length c) xs.length xs ∧ Below B w w'

theorem own_slice {w : World} {base : Nat} {e : TypeId} {v : Value} {xs : List Value} (h : w.ownsRow base e 1 v xs.length xs) : ∃ A c, v = .slice A xs.length c ∧ xs.length ≤ c := by
  rcases h.2 with ⟨rfl, h0⟩ | ⟨g, cap, cur, rfl, _, _, hc, _⟩
  · exact ⟨none, 0, by rw [h0], by omega⟩
  · exact ⟨_, cap, rfl, hc⟩

theorem NewRow.mk {E : TypeId} {B : Nat} {w w' : World} {xs : List Value} {v : Value} (h : w'.ownsRow B E 1 v xs.length xs) (hb : Below B w w') : NewRow E B w xs (.returned v) w' := by
  obtain ⟨A, c, rfl, hc⟩ := own_slice h
  exact ⟨A, c, rfl, hc, h, hb⟩

/-- what is owned stays owned where nothing that was there has turned -/
theorem own_below {w w' : World} {base : Nat} {e : TypeId} {size : Nat} {v : Value} {n : Nat} {xs : List Value} (h : w.ownsRow base e size v n xs) (hb : Below w.heap.size w w') : w'.ownsRow base e size v n xs := by
  refine ⟨h.1, ?_⟩
  rcases h.2 with h0 | ⟨g, cap, cur, hv, hg, hh, rest⟩
  · exact Or.inl h0
  · refine Or.inr ⟨g, cap, cur, hv, hg, ?_, rest⟩
    rw [hb.block g ?_]; exact hh
    rcases Nat.lt_or_ge g w.heap.size with hlt | hge
    · exact hlt
    · rw [Array.getElem?_eq_none hge] at hh; cases hh

/-! ### rows of floats, rows of integers -/
def fl (xs : List Nat) : List Value := xs.map (Value.float .f64)
theorem fl_len (xs : List Nat) : (fl xs).length = xs.length := by simp [fl]
theorem fl_append (xs ys : List Nat) : fl (xs ++ ys) = fl xs ++ fl ys := by simp [fl]
theorem fl_drop (xs : List Nat) (k : Nat) : (fl xs).drop k = fl (xs.drop k) := by simp [fl, List.map_drop]
theorem fl_take (xs : List Nat) (k : Nat) : (fl xs).take k = fl (xs.take k) := by simp [fl, List.map_take]
theorem fl_get {xs : List Nat} {k : Nat} (h : k < xs.length) : (fl xs)[k]'(by rw [fl_len]; exact h) = .float .f64 xs[k] := by simp [fl]
theorem Rd.fl {w : World} {B : Nat} {A : Option Addr} {xs : List Nat} (h : Rd w B A (fl xs)) {k : Nat} (hk : k < xs.length) : ∃ ad, A = some ad ∧ ad.block < B ∧ w.cell? (ad.add k) = some (.float .f64 (xs.getD k 0)) := by
  obtain ⟨ad, e, hb, hc⟩ := h.at (k := k) (by rw [fl_len]; exact hk)
  refine ⟨ad, e, hb, ?_⟩
  rw [hc, fl_get hk, List.getD_eq_getElem?_getD, List.getElem?_eq_getElem hk]; rfl
def il (xs : List Int) : List Value := xs.map (Value.int .i64)
theorem il_len (xs : List Int) : (il xs).length = xs.length := by simp [il]
theorem il_append (xs ys : List Int) : il (xs ++ ys) = il xs ++ il ys := by simp [il]
theorem il_drop (xs : List Int) (k : Nat) : (il xs).drop k = il (xs.drop k) := by simp [il, List.map_drop]
theorem il_take (xs : List Int) (k : Nat) : (il xs).take k = il (xs.take k) := by simp [il, List.map_take]
theorem il_get {xs : List Int} {k : Nat} (h : k < xs.length) : (il xs)[k]'(by rw [il_len]; exact h) = .int .i64 xs[k] := by simp [il]
theorem Rd.il {w : World} {B : Nat} {A : Option Addr} {xs : List Int} (h : Rd w B A (il xs)) {k : Nat} (hk : k < xs.length) : ∃ ad, A = some ad ∧ ad.block < B ∧ w.cell? (ad.add k) = some (.int .i64 (xs.getD k 0)) := by
  obtain ⟨ad, e, hb, hc⟩ := h.at (k := k) (by rw [il_len]; exact hk)
  refine ⟨ad, e, hb, ?_⟩
  rw [hc, il_get hk, List.getD_eq_getElem?_getD, List.getElem?_eq_getElem hk]; rfl

theorem take_snoc {α : Type} (l : List α) (k : Nat) (d : α) (h : k < l.length) : l.take (k + 1) = l.take k ++ [l.getD k d] := by
  rw [List.take_succ_eq_append_getElem h, List.getD_eq_getElem?_getD, List.getElem?_eq_getElem h]; rfl
theorem getD_mem {α : Type} (l : List α) (k : Nat) (d : α) (h : k < l.length) : l.getD k d ∈ l := by
  rw [List.getD_eq_getElem?_getD, List.getElem?_eq_getElem h]; exact List.getElem_mem h

/-- the one-element block that 'append(out, x)' lays -/
theorem news_one (w : World) (v : Value) (t : TypeId) : ∀ j u, [v][j]? = some u → (w.alloc (.cells #[v] t)).cell? ((⟨w.heap.size, 0, none⟩ : Addr).add j) = some u := by
  intro j u hj
  match j, hj with
  | 0, hj => simp at hj; subst hj; simp [Addr.add]

end Go.Proofs.Ytelhgahbhbinoaa
