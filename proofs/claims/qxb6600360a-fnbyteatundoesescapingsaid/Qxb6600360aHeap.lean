/-
  SMALL LAWS ON BLOCKS, over any program: what a block is behind a store; the address and the cells of an owned row.
-/
import Derived.WalkKit
import Derived.Deep.AppendLies
namespace Go.Proofs.Qxb6600360a
open Go.RowKit

theorem heap_set {w : World} {b o : Nat} {v : Value} {c : Array Value} {e : TypeId} {fz : Nat × Nat} (h : w.heap[b]? = some (.cells c e fz)) :
    (w.setCell ⟨b, o, none⟩ v).heap[b]? = some (.cells (c.setIfInBounds o v) e fz) := by
  simp only [World.setCell, Array.getElem?_modify]
  simp [h]

theorem heap_set_other {w : World} {b k o : Nat} {v : Value} (h : k ≠ b) : (w.setCell ⟨b, o, none⟩ v).heap[k]? = w.heap[k]? :=
  Below.heap_setCell _ _ _ _ h

theorem size_set {w : World} {a : Addr} {v : Value} : (w.setCell a v).heap.size = w.heap.size := by simp [World.setCell]

theorem owns_form {w : World} {base e n : Nat} {v : Value} {xs : List Value} (h : w.ownsRow base e 1 v n xs) :
    ∃ ao cap, v = .slice ao n cap ∧ (0 < n → ∃ g, ao = some ⟨g, 0, none⟩ ∧ base ≤ g ∧ g < w.heap.size ∧ ∀ j u, xs[j]? = some u → w.cell? ⟨g, j, none⟩ = some u) := by
  rcases h.2 with ⟨rfl, h0⟩ | ⟨g, cap, cur, hv, hb, hg, _⟩
  · subst h0; exact ⟨none, 0, rfl, by omega⟩
  · refine ⟨_, cap, hv, fun _ => ⟨g, rfl, hb, lt_of_block hg, fun j u hu => ?_⟩⟩
    have := h.cells (g := g) (by simp [hv, Value.ownBlock]) j u hu
    rwa [Addr.add_lit, Nat.zero_add] at this

/-- An owned row's block, by its type. -/
theorem owns_block {w : World} {base e n : Nat} {v : Value} {xs : List Value} (h : w.ownsRow base e 1 v n xs) (k : Nat) (hk : v.ownBlock = some k) :
    base ≤ k ∧ k < w.heap.size ∧ ∃ cur, w.heap[k]? = some (.cells cur e (0, 0)) := by
  rcases h.2 with ⟨rfl, h0⟩ | ⟨g, cap, cur, rfl, hb, hg, _⟩
  · simp [Value.ownBlock] at hk
  · simp [Value.ownBlock] at hk
    subst hk
    exact ⟨hb, lt_of_block hg, cur, hg⟩

/-- Rows of two element types lie apart. -/
theorem owns_apart {w : World} {b1 b2 e1 e2 n1 n2 : Nat} {v1 v2 : Value} {xs ys : List Value} (h1 : w.ownsRow b1 e1 1 v1 n1 xs) (h2 : w.ownsRow b2 e2 1 v2 n2 ys) (he : e1 ≠ e2) :
    v1.ownBlock = none ∨ v1.ownBlock ≠ v2.ownBlock := by
  cases hv : v1.ownBlock with
  | none => exact .inl rfl
  | some k =>
    right
    intro hk
    obtain ⟨_, _, c1, g1⟩ := owns_block h1 k hv
    obtain ⟨_, _, c2, g2⟩ := owns_block h2 k hk.symm
    rw [g1] at g2
    simp at g2
    exact he g2.2

theorem owns_set_other {w : World} {base e n : Nat} {v : Value} {xs : List Value} (h : w.ownsRow base e 1 v n xs) {b o : Nat} (hb : b < base) (u : Value) : (w.setCell ⟨b, o, none⟩ u).ownsRow base e 1 v n xs :=
  ownsRow_setCell_below h (a := ⟨b, o, none⟩) hb u

end Go.Proofs.Qxb6600360a
