/-
  slices.Grow AND clear AT THE ROW OF paths.
-/
import Derived.Test.Qxb6600010aPs
import Derived.Test.Qxb6600010aShelf
import Derived.Lib.SliceRun
namespace Go.Proofs.Qxb6600010a
open Go.RowKit Go.Shelf
set_option linter.unusedVariables false
set_option linter.unusedSimpArgs false

theorem zero70_at (m i : Nat) (h : i < m * 3) : (Builtin.zeroCells (Value.agg #[.int .i64 0, .int .i64 0, .int .i64 0]).cells m)[i]? = some (.int .i64 0) := by
  unfold Builtin.zeroCells
  have hs : (Value.agg #[.int .i64 0, .int .i64 0, .int .i64 0]).cells = #[.int .i64 0, .int .i64 0, .int .i64 0] := rfl
  rw [hs]
  have h3 : i % 3 < 3 := Nat.mod_lt _ (by omega)
  have hm : ∀ j, j < 3 → [Value.int .i64 0, Value.int .i64 0, Value.int .i64 0][j]?.getD default = .int .i64 0 := by
    intro j hj
    match j, hj with
    | 0, _ => rfl
    | 1, _ => rfl
    | 2, _ => rfl
  simp [h, hm _ h3]
theorem zero70_size (m : Nat) : (Builtin.zeroCells (Value.agg #[.int .i64 0, .int .i64 0, .int .i64 0]).cells m).size = m * 3 := by
  unfold Builtin.zeroCells
  have hs : (Value.agg #[.int .i64 0, .int .i64 0, .int .i64 0]).cells = #[.int .i64 0, .int .i64 0, .int .i64 0] := rfl
  rw [hs]; simp
/-- All its cells are 0. -/
def Zeros (cs : List Value) (m : Nat) : Prop := cs.length = m ∧ ∀ i, i < m → cs[i]? = some (.int .i64 0)
theorem grow_any (w : World) (n : Nat) (hn0 : 0 < n) (hn : n ≤ 65536) : Calls Try.prog 49 #[.slice none 0 0, .int .i64 (n : Int)] w fun e w' => ∃ (gc : Nat) (cs : List Value), n ≤ gc ∧ gc ≤ maxLen ∧ e = .returned (.slice (some ⟨w.heap.size, 0, none⟩) 0 gc) ∧ w' = w.drew.alloc (.cells cs.toArray 70) ∧ Zeros cs (gc * 3) := by
  obtain ⟨i0, hi0, hzz⟩ := Option.map_eq_some_iff.1 info70
  simp only [Prod.mk.injEq] at hzz
  obtain ⟨hz, hs, hb⟩ := hzz
  have hc := Any8.slices_Grow_grow Try.growP i0 _ hi0 hz (by omega) none 0 0 n [] w (Nat.le_refl _) (by omega) (by rw [hb]; omega) (by omega) (by simp) (fun _ => rfl) (fun a ha => by cases ha)
  change Calls Try.prog 49 _ _ _ at hc
  refine hc.mono ?_
  rintro e w' ⟨rfl, rfl⟩
  have hge : 0 + n ≤ grownCap w (0 + n) 0 70 := grownCap_ge w _ _ _
  have hle : grownCap w (0 + n) 0 70 ≤ maxLen := grownCap_le_maxLen w _ _ _ (by unfold maxLen; omega)
  change ∃ (gc : Nat) (cs : List Value), n ≤ gc ∧ gc ≤ maxLen ∧ Ending.returned (.slice (some ⟨w.heap.size, 0, none⟩) 0 (grownCap w (0 + n) 0 70)) = _ ∧ w.drew.alloc (.cells (([] : List Value).toArray ++ Builtin.zeroCells (Value.agg #[.int .i64 0, .int .i64 0, .int .i64 0]).cells (0 + n - 0) ++ Builtin.zeroCells (Value.agg #[.int .i64 0, .int .i64 0, .int .i64 0]).cells (grownCap w (0 + n) 0 70 - (0 + n))) 70) = _ ∧ _
  generalize grownCap w (0 + n) 0 70 = gc at *
  refine ⟨gc, ([] : List Value) ++ (Builtin.zeroCells (Value.agg #[.int .i64 0, .int .i64 0, .int .i64 0]).cells (0 + n - 0)).toList ++ (Builtin.zeroCells (Value.agg #[.int .i64 0, .int .i64 0, .int .i64 0]).cells (gc - (0 + n))).toList, by omega, hle, rfl, ?_, ?_, ?_⟩
  · rw [show ∀ a b c : Array Value, a ++ b ++ c = (a.toList ++ b.toList ++ c.toList).toArray from fun a b c => by simp]
  · simp [zero70_size]; omega
  · intro i hi
    have h1 : (Builtin.zeroCells (Value.agg #[.int .i64 0, .int .i64 0, .int .i64 0]).cells (0 + n - 0)).toList.length = n * 3 := by simp [zero70_size]
    rw [List.nil_append]
    by_cases h : i < n * 3
    · rw [List.getElem?_append_left (by omega), Array.getElem?_toList]; exact zero70_at _ _ (by omega)
    · rw [List.getElem?_append_right (by omega), Array.getElem?_toList, h1]; exact zero70_at _ _ (by omega)
/-- Setting what is there already. -/
theorem row_setCells_same {b : Nat} {e : TypeId} {xs : List Value} : ∀ (vs : List Value) (o : Nat) (w : World), Row w b e xs → (∀ j, j < vs.length → xs[o + j]? = vs[j]?) → Row (w.setCells b o vs) b e xs ∧ w.grownBy (w.setCells b o vs) (some b)
  | [], _, w, h, _ => ⟨h, grown_refl w _⟩
  | v :: r, o, w, h, hs => by
    have h0 := hs 0 (by simp)
    simp only [Nat.add_zero, List.getElem?_cons_zero] at h0
    have h1 : Row (w.setCell ⟨b, o, none⟩ v) b e xs := by
      have := h.set o v
      obtain ⟨h2, h3⟩ := List.getElem?_eq_some_iff.1 h0
      rw [← h3, List.set_getElem_self] at this
      rw [h3] at this; exact this
    obtain ⟨h4, h5⟩ := row_setCells_same r (o + 1) (w.setCell ⟨b, o, none⟩ v) h1 (fun j hj => by
      have := hs (j + 1) (by simp; omega)
      rw [List.getElem?_cons_succ] at this
      rw [← this]; congr 1; omega)
    exact ⟨h4, (grown_set w b o v).trans h5⟩
theorem clear_any (w : World) (g n gc : Nat) (cs : List Value) (hn0 : 0 < n) (hgc : n ≤ gc) (hr : Row w g 70 cs) (hz : Zeros cs (gc * 3)) : ∃ W2, (Builtin.clear_ #[73] 0 #[.slice (some ⟨g, 0, none⟩) n gc]).run Try.prog w = .ok (.tuple #[]) W2 ∧ Row W2 g 70 cs ∧ w.grownBy W2 (some g) := by
  have hl : (Builtin.zeroCells (Value.agg #[.int .i64 0, .int .i64 0, .int .i64 0]).cells n).toList.length = n * 3 := by simp [zero70_size]
  have hat : ∀ j, j < n * 3 → (Builtin.zeroCells (Value.agg #[.int .i64 0, .int .i64 0, .int .i64 0]).cells n).toList[j]? = some (.int .i64 0) := fun j hj => by rw [Array.getElem?_toList]; exact zero70_at _ _ hj
  have hst := run_storeCells_cells (P := Try.prog) g 0 (Builtin.zeroCells (Value.agg #[.int .i64 0, .int .i64 0, .int .i64 0]).cells n).toList 0 w
    (fun j hj => by rw [hr.cell (i := 0 + 0 + j) (v := .int .i64 0) (hz.2 _ (by omega))]; rfl) (fun j hj => hr.frozen _)
    (fun v hv => by
      obtain ⟨i, hi, he⟩ := List.getElem_of_mem hv
      have := hat i (by omega)
      rw [List.getElem?_eq_getElem hi, he] at this
      cases this; rfl)
  obtain ⟨h1, h2⟩ := row_setCells_same (Builtin.zeroCells (Value.agg #[.int .i64 0, .int .i64 0, .int .i64 0]).cells n).toList (0 + 0) w hr (fun j hj => by rw [hat j (by omega)]; exact hz.2 _ (by omega))
  refine ⟨_, ?_, h1, h2⟩
  obtain ⟨m, rfl⟩ : ∃ m, n = m + 1 := ⟨n - 1, by omega⟩
  simp [Builtin.clear_, run_underlying Try.underlying73, Try.zeroValue70, hst]
end Go.Proofs.Qxb6600010a
