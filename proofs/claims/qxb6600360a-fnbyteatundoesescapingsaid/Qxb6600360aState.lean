/-
  WHAT AN ADDRESS HOLDS IN MEMORY after n bytes; what the two appends of one round make of it.
-/
import Derived.Test.Qxb6600360aRows
import Derived.Test.Qxb6600360aPlain
import Derived.Test.Qxb6600360aHeap
import Derived.Deep.Draws
namespace Go.Proofs.Qxb6600360a
open Go.RowKit

/-- A byte, an int, as a cell's value. -/
def vB (b : UInt8) : Value := .int .u8 b.toNat
def vI (e : Nat) : Value := .int .i64 (e : Int)

/-- The address at block B: its text, where it began, b bytes and e ends read. -/
structure Mid (B : Nat) (t : ByteArray) (f nb ne : Nat) (w : World) (vb ve : Value) : Prop where
  can : PL.Can t.data.toList f ne
  blk : w.heap[B]? = some (.cells #[.string t, .int .i64 f, vb, ve] 38 (0, 0))
  ob : w.ownsRow (B + 1) 5 1 vb nb ((PL.bytes t.data.toList f nb).map vB)
  oe : w.ownsRow (B + 1) 3 1 ve ne ((PL.ends t.data.toList f ne).map vI)

theorem Mid.lt {B : Nat} {t : ByteArray} {f nb ne : Nat} {w : World} {vb ve : Value} (h : Mid B t f nb ne w vb ve) : B < w.heap.size := lt_of_block h.blk

theorem mid_below {B : Nat} {t : ByteArray} {f nb ne : Nat} {w w' : World} {vb ve : Value} (h : Mid B t f nb ne w vb ve) (hb : Below w.heap.size w w') : Mid B t f nb ne w' vb ve := by
  have hg : w.grownBy w' none := ⟨hb.os, hb.tape, hb.output, hb.size, fun k hk _ => hb.block k hk⟩
  exact ⟨h.can, by rw [hb.block B h.lt]; exact h.blk, h.ob.kept hg (by cases vb.ownBlock <;> simp), h.oe.kept hg (by cases ve.ownBlock <;> simp)⟩

theorem mid_bytes {B : Nat} {t : ByteArray} {f m : Nat} {w w1 w2 : World} {vb ve v' : Value} (h : Mid B t f m m w vb ve) (hb : Below w.heap.size w w1)
    (hg : w1.grownBy w2 vb.ownBlock) (ho : w2.ownsRow (B + 1) 5 1 v' (m + 1) ((PL.bytes t.data.toList f m).map vB ++ [vB (PL.bt t.data.toList f m)])) :
    Mid B t f (m + 1) m (w2.setCell ⟨B, 2, none⟩ v') v' ve ∧ Below B w (w2.setCell ⟨B, 2, none⟩ v') := by
  have h1 := mid_below h hb
  have hlt1 := h1.lt
  have hne : ∀ k, vb.ownBlock = some k → B + 1 ≤ k := fun k hk => (owns_block h1.ob k hk).1
  have hB2 : w2.heap[B]? = some (.cells #[.string t, .int .i64 f, vb, ve] 38 (0, 0)) := by
    rw [hg.block B hlt1 (fun e => by have := hne B e.symm; omega)]; exact h1.blk
  refine ⟨⟨h.can, ?_, ?_, ?_⟩, ?_⟩
  · rw [heap_set hB2]; rfl
  · rw [PL.bytes_succ, List.map_append]; exact owns_set_other ho (by omega) _
  · exact owns_set_other (h1.oe.kept hg (owns_apart h1.oe h1.ob (by decide))) (by omega) _
  · have hbB : Below B w w1 := hb.mono (Nat.le_of_lt h.lt)
    exact (hbB.grown hg (by omega) (fun k hk => by have := hne k hk; omega)).setCell (p := ⟨B, 2, none⟩) (Nat.le_refl _) _

theorem mid_ends {B : Nat} {t : ByteArray} {f m : Nat} {w w1 w2 : World} {vb ve v' : Value} (h : Mid B t f (m + 1) m w vb ve) (hb : Below w.heap.size w w1) (hc : PL.Can t.data.toList f (m + 1))
    (hg : w1.grownBy w2 ve.ownBlock) (ho : w2.ownsRow (B + 1) 3 1 v' (m + 1) ((PL.ends t.data.toList f m).map vI ++ [vI (PL.ps t.data.toList f (m + 1))])) :
    Mid B t f (m + 1) (m + 1) (w2.setCell ⟨B, 3, none⟩ v') vb v' ∧ Below B w (w2.setCell ⟨B, 3, none⟩ v') := by
  have h1 := mid_below h hb
  have hlt1 := h1.lt
  have hne : ∀ k, ve.ownBlock = some k → B + 1 ≤ k := fun k hk => (owns_block h1.oe k hk).1
  have hB2 : w2.heap[B]? = some (.cells #[.string t, .int .i64 f, vb, ve] 38 (0, 0)) := by
    rw [hg.block B hlt1 (fun e => by have := hne B e.symm; omega)]; exact h1.blk
  refine ⟨⟨hc, ?_, ?_, ?_⟩, ?_⟩
  · rw [heap_set hB2]; rfl
  · exact owns_set_other (h1.ob.kept hg (owns_apart h1.ob h1.oe (by decide))) (by omega) _
  · rw [PL.ends_succ, List.map_append]; exact owns_set_other ho (by omega) _
  · have hbB : Below B w w1 := hb.mono (Nat.le_of_lt h.lt)
    exact (hbB.grown hg (by omega) (fun k hk => by have := hne k hk; omega)).setCell (p := ⟨B, 3, none⟩) (Nat.le_refl _) _

theorem below_drewN {B : Nat} {a w : World} (h : Below B a w) (n : Nat) : Below B a (w.drewN n) := ⟨h.os, h.tape, h.output, h.size, h.block⟩

theorem mid_drewN {B : Nat} {t : ByteArray} {f nb ne : Nat} {w : World} {vb ve : Value} (h : Mid B t f nb ne w vb ve) (n : Nat) : Mid B t f nb ne (w.drewN n) vb ve := ⟨h.can, h.blk, h.ob, h.oe⟩

end Go.Proofs.Qxb6600360a
