/-
  A Change, AND LISTS OF THEM, AS CELLS.
-/
import Derived.Test.Qxb6600010aNamed
import Derived.Deep.AppendLies
namespace Go.Proofs.Qxb6600010a
open Go.RowKit
set_option linter.unusedVariables false
set_option linter.unusedSimpArgs false
attribute [local go_sem ↓] Go.wp_at_zero Go.wp_at_succ

theorem info48 : (Try.prog.info? 48).map (fun i => (i.zero, i.size, i.bytes)) = some (some (.agg #[.string ⟨#[]⟩, .string ⟨#[]⟩, .int .i64 0, .string ⟨#[]⟩, .string ⟨#[]⟩, .int .i64 0, .string ⟨#[]⟩]), 7, 96) := by kernel_rfl
/-- A Change. -/
structure CH where
  nm : ByteArray
  was : NP
  is : NP
def chC (c : CH) : List Value := [.string c.nm, .string c.was.via, .int .i64 (c.was.hops : Int), .string c.was.prev, .string c.is.via, .int .i64 (c.is.hops : Int), .string c.is.prev]
def chs (C : List CH) : List Value := (C.map chC).flatten
theorem chs_snoc (C : List CH) (c : CH) : chs (C ++ [c]) = chs C ++ chC c := by simp [chs]
def ptNe (a b : PT) : Bool := !(a.via == b.via && a.prev == b.prev && a.hops == b.hops)
theorem fields70 : Try.prog.underlying 70 = some (.struct (Try.prog.fieldsOf 70)) := by kernel_rfl
theorem held70 : Try.prog.stoodInHeld 70 = false := by kernel_rfl
set_option maxHeartbeats 1000000 in
theorem equal70 (v1 p1 h1 v2 p2 h2 : Nat) (w : World) : (Op.equalIn 10000 70 (.agg #[.int .i64 (v1 : Int), .int .i64 (p1 : Int), .int .i64 (h1 : Int)]) (.agg #[.int .i64 (v2 : Int), .int .i64 (p2 : Int), .int .i64 (h2 : Int)])).run Try.prog w = .ok (!ptNe ⟨v1, p1, h1⟩ ⟨v2, p2, h2⟩) w := by
  have u3 := Try.underlying3
  have a3 := Try.isAgg3
  have z3 := Try.sizeOf3
  rw [show (10000 : Nat) = 9999 + 1 from rfl, run_equalIn_struct w 9999 70 _ _ fields70 held70]
  simp only [Program.fieldsOf, Try.underlying70]
  go_simp
  unfold ptNe
  have c1 : ((v1 : Int) = v2) = (v1 = v2) := propext (by omega)
  have c2 : ((p1 : Int) = p2) = (p1 = p2) := propext (by omega)
  have c3 : ((h1 : Int) = h2) = (h1 = h2) := propext (by omega)
  simp only [c1, c2, c3]
  by_cases g1 : v1 = v2 <;> by_cases g2 : p1 = p2 <;> by_cases g3 : h1 = h2 <;> simp [g1, g2, g3, beq_eq_false_iff_ne.2]
theorem ptNe_no {a b : PT} (h : ptNe a b = false) : a = b := by
  cases a; cases b
  simp [ptNe] at h
  simp [h]
theorem ptNe_yes {a b : PT} (h : ptNe a b = true) : a ≠ b := by
  intro e
  subst e
  simp [ptNe] at h
def chOf (nm : Nat → ByteArray) (P P' : Nat → PT) (j : Nat) : CH := ⟨nm j, nmd nm (P j), nmd nm (P' j)⟩
/-- The nodes below k whose path turned. -/
def difs (P P' : Nat → PT) (k : Nat) : List Nat := (List.range k).filter fun j => decide (1 ≤ j) && ptNe (P' j) (P j)
theorem difs_succ (P P' : Nat → PT) (k : Nat) (hk : 1 ≤ k) : difs P P' (k + 1) = difs P P' k ++ if ptNe (P' k) (P k) then [k] else [] := by
  unfold difs
  rw [List.range_succ, List.filter_append]
  cases h : ptNe (P' k) (P k) <;> simp [h, hk]
theorem difs_len (P P' : Nat → PT) (k : Nat) : (difs P P' k).length ≤ k := by
  have := List.length_filter_le (fun j => decide (1 ≤ j) && ptNe (P' j) (P j)) (List.range k)
  simpa [difs] using this
theorem difs_one (P P' : Nat → PT) : difs P P' 1 = [] := by simp [difs, List.range_succ]
theorem Kp.step {B : Nat} {a W w' : World} (hB : B ≤ a.heap.size) (h : Kp B [] a W) (hk : Kp W.heap.size [] W w') : Kp B [] a w' := h.trans (hk.mono (Nat.le_trans hB h.size) (by simp))
theorem owns_keep {w w' : World} {base e size n : Nat} {v : Value} {xs : List Value} (h : w.ownsRow base e size v n xs) (hk : Kp w.heap.size [] w w') : w'.ownsRow base e size v n xs := owns_kp h hk (fun k hk' => ⟨(owns_block h k hk').2.1, by simp⟩)
theorem append_kp {w3 wb wc1 wc2 w1 : World} {B3 : Nat} {v : Value} {L : Nat} {X : List Value} {o : Obj} (hK : Kp B3 [] w3 wb) (hB : B3 ≤ wb.heap.size) (ho : wb.ownsRow B3 48 7 v L X) (hA : Kp wb.heap.size [] wb.drew wc1) (hC : Kp wc1.heap.size [] wc1 wc2) (hg : (wc2.alloc o).grownBy w1 v.ownBlock) : Kp B3 [] w3 w1 := by
  have h1 : Kp B3 [] w3 wc1 := hK.drew.trans (hA.mono hB (by simp))
  have h2 : Kp B3 [] w3 wc2 := h1.trans (hC.mono (Nat.le_trans hB hA.size) (by simp))
  have h3 : B3 ≤ wc2.heap.size := Nat.le_trans hB (Nat.le_trans hA.size hC.size)
  exact (h2.alloc h3 o).grown hg (by rw [World.size_alloc]; omega) (fun k hk => .inl (owns_block ho k hk).1)
theorem append_le {wb wc1 wc2 : World} {B3 : Nat} {o : Obj} (hB : B3 ≤ wb.heap.size) (hA : Kp wb.heap.size [] wb.drew wc1) (hC : Kp wc1.heap.size [] wc1 wc2) : B3 ≤ (wc2.alloc o).heap.size := by
  have h3 : B3 ≤ wc2.heap.size := Nat.le_trans hB (Nat.le_trans hA.size hC.size)
  rw [World.size_alloc]; omega
end Go.Proofs.Qxb6600010a
