/-
  How an argument that is a slice of floats or of integers is opened.
-/
import Derived.Test.YtelhgahbhbinoaaRows
import Derived.Test.YtelhgahbhbinoaaMem
import Derived.ProofKit
import Derived.OpenShut
import Derived.ShutString
import Derived.ChangeOld
import Derived.SizedLaws
import Derived.Deep.Slices
namespace Go.Proofs.Ytelhgahbhbinoaa
open Go.ChangeShapes Go.WideShapes Go.ChangeAt Go.RowKit Go.Deep

theorem Try.own : ownKnob Try.prog.godebug = none := by kernel_rfl
theorem Try.laidOut : laidOutB Try.prog = true := by kernel_rfl

/-- a slice of floats that came in: its words, below the heap's size, within the reach -/
structure FRow (w : World) (A : Option Addr) (n c : Nat) (l : List Nat) : Prop where
  len : l.length = n
  cap : n ≤ c
  room : n * 8 ≤ 140737488351232
  reads : Rd w w.heap.size A (fl l)
  words : ∀ b ∈ l, b < 2 ^ 64

/-- a slice of integers that came in -/
structure IRow (w : World) (A : Option Addr) (n c : Nat) (l : List Int) : Prop where
  len : l.length = n
  cap : n ≤ c
  room : n * 8 ≤ 140737488351232
  reads : Rd w w.heap.size A (il l)
  words : ∀ b ∈ l, -9223372036854775808 ≤ b ∧ b ≤ 9223372036854775807

section
variable {H : Type} {enc : TypeId × Value → H} {P : Program} {w : World} {base : Nat} {spare : Nat → Bool} {held : Bool}

theorem trod_float {t : TypeId} {k : FloatKind} {fuel : Nat} {cs : List Value} {x : DataW H × List MemPlace} (ht : P.underlying t = some (.float k)) (h : DataW.trod enc P w base spare held fuel t cs = some x) :
    ∃ n, cs = [.float k n] ∧ (Lit.float k n).wf = true := by
  cases fuel with
  | zero => simp [DataW.trod] at h
  | succ n =>
    unfold DataW.trod at h
    rw [ht] at h
    split at h <;> simp_all

theorem wf_f64 {b : Nat} (h : (Lit.float .f64 b).wf = true) : b < 2 ^ 64 := by
  simpa [Lit.wf] using h
theorem wf_i64 {b : Int} (h : (Lit.int .i64 b).wf = true) : -9223372036854775808 ≤ b ∧ b ≤ 9223372036854775807 := by
  have h1 : IntKind.i64.min = -9223372036854775808 := rfl
  have h2 : IntKind.i64.max = 9223372036854775807 := rfl
  simp only [Lit.wf, Bool.and_eq_true, decide_eq_true_eq] at h
  omega

theorem block_of_cell {w : World} {a : Addr} {v : Value} (h : w.cell? a = some v) : a.block < w.heap.size := by
  rcases Nat.lt_or_ge a.block w.heap.size with h1 | h1
  · exact h1
  · unfold World.cell? at h
    rw [Array.getElem?_eq_none h1] at h
    simp at h

theorem open_frow {t e : TypeId} {a : Option Addr} {len cap fuel : Nat} {x : DataW H × List MemPlace} {ts : List TypeId} {ds : List (DataW H)} {j : Nat}
    (ht : P.underlying t = some (.slice e)) (he : P.underlying e = some (.float .f64)) (hc : P.cellsOf e = 1) (hby : P.bytesOf e = 8)
    (h : DataW.trod enc P w base spare held fuel t [.slice a len cap] = some x)
    (hs : (DataW.weightsEach P ts ds).all (· ≤ reachBytes) = true) (hj : ts[j]? = some t) (hd : ds[j]? = some x.1) : ∃ l, FRow w a len cap l := by
  rcases open_slice1 ht hc h with ⟨hcs, _⟩ | ⟨ad, len', cap', m, n, V, D, Pl, hcs, hb, hl, hm, hmm, hx, hV⟩
  · simp at hcs
    obtain ⟨rfl, rfl, rfl⟩ := hcs
    exact ⟨[], rfl, Nat.le_refl _, by omega, Rd.nil, by simp⟩
  · simp at hcs
    obtain ⟨rfl, rfl, rfl⟩ := hcs
    have hlm : len ≤ m := by rw [hmm]; split <;> omega
    have hroom : len * 8 ≤ 140737488351232 := by
      rw [hx] at hd
      have := sized_slice hs hj hd ht
      rw [hby, List.length_map, List.length_range] at this
      simp only [reachBytes] at this
      omega
    have hf : ∀ i, i < m → ∃ b, V i = .float .f64 b ∧ b < 2 ^ 64 := by
      intro i hi
      obtain ⟨b, hb1, hb2⟩ := trod_float he (hV i hi).2
      exact ⟨b, by simpa using hb1, wf_f64 hb2⟩
    let g : Nat → Nat := fun i => match V i with | .float _ b => b | _ => 0
    have hg : ∀ i, i < m → V i = .float .f64 (g i) ∧ g i < 2 ^ 64 := by
      intro i hi
      obtain ⟨b, h1, h2⟩ := hf i hi
      have : g i = b := by show (match V i with | .float _ b => b | _ => 0) = b; rw [h1]
      rw [this]; exact ⟨h1, h2⟩
    refine ⟨(List.range len).map g, by simp, hl, hroom, ?_, ?_⟩
    · intro i u hu
      have hi : i < len := by
        rcases Nat.lt_or_ge i len with h1 | h1
        · exact h1
        · rw [List.getElem?_eq_none (by rw [fl_len]; simpa using h1)] at hu; cases hu
      have hcell := (hV i (by omega)).1
      refine ⟨ad, rfl, by have := block_of_cell hcell; rw [blk_add] at this; exact this, ?_⟩
      rw [hcell, (hg i (by omega)).1]
      unfold fl at hu
      rw [List.getElem?_map, List.getElem?_map, List.getElem?_range hi] at hu
      exact hu
    · intro b hb
      simp only [List.mem_map, List.mem_range] at hb
      obtain ⟨i, hi, rfl⟩ := hb
      exact (hg i (by omega)).2

theorem open_irow {t e : TypeId} {a : Option Addr} {len cap fuel : Nat} {x : DataW H × List MemPlace} {ts : List TypeId} {ds : List (DataW H)} {j : Nat}
    (ht : P.underlying t = some (.slice e)) (he : P.underlying e = some (.int .i64)) (hc : P.cellsOf e = 1) (hby : P.bytesOf e = 8)
    (h : DataW.trod enc P w base spare held fuel t [.slice a len cap] = some x)
    (hs : (DataW.weightsEach P ts ds).all (· ≤ reachBytes) = true) (hj : ts[j]? = some t) (hd : ds[j]? = some x.1) : ∃ l, IRow w a len cap l := by
  rcases open_slice1 ht hc h with ⟨hcs, _⟩ | ⟨ad, len', cap', m, n, V, D, Pl, hcs, hb, hl, hm, hmm, hx, hV⟩
  · simp at hcs
    obtain ⟨rfl, rfl, rfl⟩ := hcs
    exact ⟨[], rfl, Nat.le_refl _, by omega, Rd.nil, by simp⟩
  · simp at hcs
    obtain ⟨rfl, rfl, rfl⟩ := hcs
    have hlm : len ≤ m := by rw [hmm]; split <;> omega
    have hroom : len * 8 ≤ 140737488351232 := by
      rw [hx] at hd
      have := sized_slice hs hj hd ht
      rw [hby, List.length_map, List.length_range] at this
      simp only [reachBytes] at this
      omega
    have hf : ∀ i, i < m → ∃ b, V i = .int .i64 b ∧ (-9223372036854775808 ≤ b ∧ b ≤ 9223372036854775807) := by
      intro i hi
      obtain ⟨b, hb1, _, hb2⟩ := DataW.trod_int he (hV i hi).2
      exact ⟨b, by simpa using hb1, wf_i64 hb2⟩
    let g : Nat → Int := fun i => match V i with | .int _ b => b | _ => 0
    have hg : ∀ i, i < m → V i = .int .i64 (g i) ∧ (-9223372036854775808 ≤ g i ∧ g i ≤ 9223372036854775807) := by
      intro i hi
      obtain ⟨b, h1, h2⟩ := hf i hi
      have : g i = b := by show (match V i with | .int _ b => b | _ => 0) = b; rw [h1]
      rw [this]; exact ⟨h1, h2⟩
    refine ⟨(List.range len).map g, by simp, hl, hroom, ?_, ?_⟩
    · intro i u hu
      have hi : i < len := by
        rcases Nat.lt_or_ge i len with h1 | h1
        · exact h1
        · rw [List.getElem?_eq_none (by rw [il_len]; simpa using h1)] at hu; cases hu
      have hcell := (hV i (by omega)).1
      refine ⟨ad, rfl, by have := block_of_cell hcell; rw [blk_add] at this; exact this, ?_⟩
      rw [hcell, (hg i (by omega)).1]
      unfold il at hu
      rw [List.getElem?_map, List.getElem?_map, List.getElem?_range hi] at hu
      exact hu
    · intro b hb
      simp only [List.mem_map, List.mem_range] at hb
      obtain ⟨i, hi, rfl⟩ := hb
      exact (hg i (by omega)).2
end
end Go.Proofs.Ytelhgahbhbinoaa
