/-
  A row that is read while another one of the call's own grows: they lie apart.
-/
import Derived.Test.YtlpcpoganlmiaaaMem
namespace Go.Proofs.Ytlpcpoganlmiaaa
open Go.RowKit

/-- the block of the row that is read lies below B and is not the one that grows -/
def Apr (B : Nat) (A : Option Addr) (v : Value) : Prop := ∀ ad, A = some ad → ad.block < B ∧ v.ownBlock ≠ some ad.block
theorem Apr.step {B : Nat} {A : Option Addr} {v v' : Value} (h : Apr B A v) {n : Nat} (hB : B ≤ n) (hv : v'.ownBlock = v.ownBlock ∨ v'.ownBlock = some n) : Apr B A v' := fun ad e => by
  obtain ⟨h1, h2⟩ := h ad e
  refine ⟨h1, ?_⟩
  rcases hv with hv | hv
  · rw [hv]; exact h2
  · rw [hv]; intro h3; injection h3 with h3; omega
theorem Rd.grown {w w' : World} {B : Nat} {A : Option Addr} {xs : List Value} {v : Value} (h : Rd w B A xs) (ha : Apr B A v) (hg : w.grownBy w' v.ownBlock) : Rd w' B A xs := fun j u hu => by
  obtain ⟨ad, e, hb, hc⟩ := h j u hu
  refine ⟨ad, e, hb, hg.cell hc ?_⟩
  rw [blk_add]
  exact fun h3 => (ha ad e).2 h3.symm
theorem own_block {w : World} {base n c m : Nat} {e : TypeId} {A : Option Addr} {xs : List Value} (h : w.ownsRow base e 1 (.slice A n c) m xs) : ∀ ad, A = some ad → base ≤ ad.block ∧ ad.block < w.heap.size := fun ad ea => by
  rcases h.2 with ⟨hv, _⟩ | ⟨g, cap, cur, hv, hg, hh, _⟩
  · injection hv with h1; rw [ea] at h1; cases h1
  · injection hv with h1
    rw [ea] at h1
    injection h1 with h1
    rw [h1]
    exact ⟨hg, (Array.getElem?_eq_some_iff.1 hh).1⟩
/-- a row that was made behind the literal of an empty one -/
theorem Apr.lit {w : World} {base n c m g : Nat} {e : TypeId} {A : Option Addr} {xs : List Value} (h : w.ownsRow base e 1 (.slice A n c) m xs) (hg : g < base) : Apr w.heap.size A (.slice (some ⟨g, 0, none⟩) 0 0) := fun ad ea => by
  obtain ⟨h1, h2⟩ := own_block h ad ea
  refine ⟨h2, fun h3 => ?_⟩
  have : some g = some ad.block := h3
  injection this with h4
  omega
end Go.Proofs.Ytlpcpoganlmiaaa
