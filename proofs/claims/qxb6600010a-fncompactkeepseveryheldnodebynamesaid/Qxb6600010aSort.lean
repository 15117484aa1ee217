/-
  slices.SortFunc AT A ROW OF Changes, by the shelf.
-/
import Derived.Test.Qxb6600010aChg
import Derived.Test.Qxb6600010aOrder
import Derived.Test.Qxb6600010aJn
import Derived.Test.Qxb6600010aShelf
namespace Go.Proofs.Qxb6600010a
open Go.Shelf Go.RowKit Go.Lib Go.Sort
set_option linter.unusedVariables false
set_option linter.unusedSimpArgs false

theorem bl_cmp : ∀ a b : List UInt8, decide (Lib.compareBytes a b < 0) = Op.bytesLess a b
  | [], [] => rfl
  | [], _ :: _ => rfl
  | _ :: _, [] => rfl
  | a :: xs, b :: ys => by
    unfold Lib.compareBytes Op.bytesLess
    have ih := bl_cmp xs ys
    by_cases h : a < b
    · simp [h]
    · by_cases h2 : b < a
      · have h3 : (a == b) = false := by rw [beq_eq_false_iff_ne]; intro e; subst e; exact h h2
        simp [h, h2, h3]
      · have h3 : a = b := UInt8.le_antisymm (UInt8.not_lt.1 h2) (UInt8.not_lt.1 h)
        subst h3
        rw [if_neg h, if_neg h, ih]
        simp
def cfN (x y : CH) : Int := Lib.compareBytes x.nm.data.toList y.nm.data.toList
theorem lt_cfN (x y : CH) : ltOf cfN x y = PL.nlt x.nm y.nm := by
  unfold ltOf cfN PL.nlt
  rw [bl_cmp, ByteArray.toList_eq, ByteArray.toList_eq]
theorem swo_cfN : SWO (ltOf cfN) where
  irrefl x := by rw [lt_cfN]; exact PL.nlt_irrefl _
  trans x y z h1 h2 := by rw [lt_cfN] at *; exact PL.nlt_trans h1 h2
  ntrans x y z h1 h2 := by rw [lt_cfN] at *; exact PL.nle_trans h2 h1
theorem chs_at : ∀ (C : List CH) (t : Nat), (chs C)[t]? = (C[t / 7]?).bind fun c => (chC c)[t % 7]?
  | [], t => by simp [chs]
  | c :: C, t => by
    have hc : chs (c :: C) = chC c ++ chs C := by simp [chs]
    have hl : (chC c).length = 7 := rfl
    rw [hc]
    by_cases h : t < 7
    · rw [List.getElem?_append_left (by omega), Nat.div_eq_of_lt h, Nat.mod_eq_of_lt h]; rfl
    · rw [List.getElem?_append_right (by omega), hl, chs_at C (t - 7)]
      have h1 : t / 7 = (t - 7) / 7 + 1 := by omega
      have h2 : t % 7 = (t - 7) % 7 := by omega
      rw [h1, h2, List.getElem?_cons_succ]
theorem chs_len (C : List CH) : (chs C).length = C.length * 7 := by
  induction C with
  | nil => rfl
  | cons c C ih =>
    have hc : chs (c :: C) = chC c ++ chs C := by simp [chs]
    have hl : (chC c).length = 7 := rfl
    rw [hc, List.length_append, ih, hl, List.length_cons]; omega
theorem flat_chs [Inhabited CH] (C : List CH) : (flatK chC 7 C.toArray).toList = chs C := by
  apply List.ext_getElem?
  intro t
  by_cases h : t < C.length * 7
  · have h7 : t / 7 < C.length := by omega
    have hm : t % 7 < 7 := Nat.mod_lt _ (by omega)
    rw [chs_at, Array.getElem?_toList]
    have hs : t < (flatK chC 7 C.toArray).size := by rw [size_flatK]; simpa using h
    have hg := get_flatK chC 7 C.toArray t (by simpa using h)
    rw [getElem!_pos (flatK chC 7 C.toArray) t hs] at hg
    rw [Array.getElem?_eq_getElem hs, hg]
    have e1 : C.toArray[t / 7]! = C[t / 7] := by rw [getElem!_pos C.toArray (t / 7) (by simpa using h7)]; simp
    rw [e1, List.getElem?_eq_getElem h7, Option.bind_some]
    have hl : t % 7 < (chC C[t / 7]).length := hm
    rw [List.getElem?_eq_getElem hl, getElem!_pos (chC C[t / 7]) (t % 7) hl]
  · rw [List.getElem?_eq_none (by rw [Array.length_toList, size_flatK]; simp; omega), List.getElem?_eq_none (by rw [chs_len]; omega)]

set_option maxHeartbeats 1000000 in
theorem cmp51 (x y : CH) (W : World) : Calls Try.prog 51 #[.agg (chC x).toArray, .agg (chC y).toArray] W fun e w' => e = .returned (.int .i64 (cfN x y)) ∧ ∃ q os', w' = grow (W.drewN q) os' := by
  have hcon := fun W' => Any.strings_Compare Try.strCmp x.nm y.nm W'
  change ∀ W', Calls Try.prog 52 _ _ _ at hcon
  unfold cfN
  generalize Lib.compareBytes x.nm.data.toList y.nm.data.toList = r at hcon ⊢
  unfold chC
  go_enter Try.func51, Try.ntmps51
  go_wp2_with (go_at_call 52; refine (hcon _).mono ?_; rintro e w' ⟨rfl, rfl⟩)
  go_ret
  exact ⟨rfl, 0, _, by rw [alloc_eq_grow, alloc_eq_grow, grow_grow]; rfl⟩
theorem grow_heap (w : World) (os : Array Obj) (k : Nat) (h : k < w.heap.size) : (grow w os).heap[k]? = w.heap[k]? := by
  unfold grow; rw [Array.getElem?_append_left h]
theorem sortW_row [Inhabited CH] {w : World} {blk m : Nat} {C C' : List CH} {rest : List Value} {os : Array Obj} (hr : Row w blk 48 (chs C ++ rest)) (hl : C'.length = C.length) :
    Row (sortWorldK chC 7 w blk 0 m C'.toArray os) blk 48 (chs C' ++ rest) ∧ w.grownBy (sortWorldK chC 7 w blk 0 m C'.toArray os) (some blk) := by
  have hlt := hr.lt
  have hsz : (putRowK chC 7 (Sort.ahead w m) blk 0 C'.toArray).heap.size = w.heap.size := by simp [putRowK, putRow, mapBlock, Sort.ahead]
  refine ⟨?_, ⟨rfl, rfl, rfl, ?_, fun k hk hne => ?_⟩⟩
  · unfold Row sortWorldK
    rw [grow_heap _ _ _ (by rw [hsz]; exact hlt)]
    unfold Row at hr
    have : (putRowK chC 7 (Sort.ahead w m) blk 0 C'.toArray).heap[blk]? = some (.cells (putCells id 0 (flatK chC 7 C'.toArray) (chs C ++ rest).toArray) 48 (0, 0)) := by
      simp [putRowK, putRow, mapBlock, Sort.ahead, Array.getElem?_modify, hr, onCells]
    rw [this]
    congr 2
    apply Array.ext'
    apply List.ext_getElem?
    intro t
    have hfl : (flatK chC 7 C'.toArray).size = C.length * 7 := by rw [size_flatK]; simp [hl]
    unfold putCells
    rw [Array.getElem?_toList, Array.getElem?_mapIdx]
    simp only [Nat.zero_le, true_and, Nat.zero_add, Nat.sub_zero, id]
    by_cases h : t < C.length * 7
    · have h1 : t < (chs C ++ rest).toArray.size := by simp [chs_len]; omega
      have h4 : (chs C ++ rest).toArray[t]? = some (chs C ++ rest).toArray[t] := Array.getElem?_eq_getElem h1
      have h5 : (flatK chC 7 C'.toArray)[t]? = (chs C')[t]? := by rw [← flat_chs, Array.getElem?_toList]
      have h2 : (chs C' ++ rest).toArray.toList[t]? = (chs C')[t]? := by
        rw [List.toList_toArray, List.getElem?_append_left (by rw [chs_len, hl]; exact h)]
      have h3 : t < (flatK chC 7 C'.toArray).size := by omega
      rw [h4, Option.map_some, if_pos h3]
      refine Eq.trans ?_ h2.symm
      rw [← h5, Array.getElem?_eq_getElem h3, getElem!_pos (flatK chC 7 C'.toArray) t h3]
    · have h3 : ¬ t < (flatK chC 7 C'.toArray).size := by omega
      simp only [if_neg h3, Option.map_id']
      rw [List.getElem?_toArray, List.getElem?_append_right (by rw [chs_len]; omega), List.getElem?_append_right (by rw [chs_len, hl]; omega), chs_len, chs_len, hl]
  · show w.heap.size ≤ ((putRowK chC 7 (Sort.ahead w m) blk 0 C'.toArray).heap ++ os).size
    rw [Array.size_append, hsz]; omega
  · unfold sortWorldK
    rw [grow_heap _ _ _ (by rw [hsz]; exact hk)]
    have hne' : blk ≠ k := fun e => hne (by rw [e])
    simp [putRowK, putRow, mapBlock, Sort.ahead, Array.getElem?_modify, hne']
theorem sort_some [Inhabited CH] (W : World) (blk cap : Nat) (C : List CH) (rest : List Value) (hr : Row W blk 48 (chs C ++ rest)) (hl : C.length ≤ 65536) :
    Calls Try.prog 50 #[.slice (some ⟨blk, 0, none⟩) C.length cap, .func (.func 51) #[] #[]] W fun e w' => e = .returned (.tuple #[]) ∧
      ∃ C' : List CH, C'.Perm C ∧ C'.Pairwise (fun x y => PL.nlt y.nm x.nm = false) ∧ Row w' blk 48 (chs C' ++ rest) ∧ W.grownBy w' (some blk) := by
  have eg : ∀ args w, (callFunc 51 args).run Try.prog w = .ok (.enter 51 args) w := enters_of Try.func51 (by kernel_rfl) rfl
  have hH : HoldsK chC 7 W blk 0 C.toArray := by
    intro j hj
    rw [size_flatK] at hj
    have hj2 : j < C.length * 7 := by simpa using hj
    have h1 : j < (flatK chC 7 C.toArray).size := by rw [size_flatK]; exact hj
    refine ⟨?_, hr.frozen _⟩
    have h2 : (chs C)[j]? = some (flatK chC 7 C.toArray)[j]! := by rw [← flat_chs, Array.getElem?_toList, Array.getElem?_eq_getElem h1, getElem!_pos (flatK chC 7 C.toArray) j h1]
    exact hr.cell (i := 0 + j) (by rw [Nat.zero_add]; exact at_left h2)
  have hcon := AnyQ.slices_SortFunc Try.sortC 7 Try.isAgg48 Try.sizeOf48 chC (fun _ => rfl) (fun x v hv => by simp [chC] at hv; rcases hv with rfl | rfl | rfl | rfl | rfl | rfl | rfl <;> rfl) cfN swo_cfN 51 #[] blk 0 cap C.toArray W eg (fun _ _ _ _ x y => cmp51 x y _) hH hr.lt (by simp; omega)
  change Calls Try.prog 50 _ _ _ at hcon
  rw [List.size_toArray] at hcon
  refine hcon.mono ?_
  rintro e w' ⟨rfl, d', m, os, hp, hs, rfl⟩
  obtain ⟨C', rfl⟩ : ∃ C' : List CH, d' = C'.toArray := ⟨d'.toList, by simp⟩
  have hl' : C'.length = C.length := by have := hp.1; simpa using this
  refine ⟨rfl, C', ?_, ?_, (sortW_row hr hl').1, (sortW_row hr hl').2⟩
  · have h := hp.2.2
    simp only [List.extract_toArray, List.extract_eq_take_drop, List.drop_zero, Nat.sub_zero] at h
    rw [List.take_of_length_le (by omega), List.take_of_length_le (by omega)] at h
    exact h
  · rw [List.pairwise_iff_getElem]
    intro i j hi hj hij
    have h := hs i j (Nat.zero_le _) hij (by omega)
    rw [lt_cfN, getElem!_pos C'.toArray j (by simpa using hj), getElem!_pos C'.toArray i (by simpa using hi)] at h
    simpa using h
theorem owns_to_rowC {w : World} {base n : Nat} {v : Value} {xs : List Value} (h : w.ownsRow base 48 7 v n xs) (h0 : 0 < n) :
    ∃ g cap rest, v = .slice (some ⟨g, 0, none⟩) n cap ∧ base ≤ g ∧ Row w g 48 (xs ++ rest) ∧ n ≤ cap ∧ cap ≤ maxLen ∧ (xs ++ rest).length = cap * 7 := by
  rcases h.2 with ⟨_, hn⟩ | ⟨g, cap, cur, hv, hb, hg, h1, h2, h3, h4⟩
  · omega
  · have e : cur.toList = xs ++ cur.toList.drop (n * 7) := by
      rw [← h4, List.take_append_drop]
    refine ⟨g, cap, cur.toList.drop (n * 7), hv, hb, ?_, h1, h2, ?_⟩
    · unfold Row; rw [← e, hg]
    · rw [← e]; simpa using h3
theorem row_to_ownsC {w : World} {base n g cap : Nat} {xs rest : List Value} (hb : base ≤ g) (h : Row w g 48 (xs ++ rest)) (hl : xs.length = n * 7) (h1 : n ≤ cap) (h2 : cap ≤ maxLen) (h3 : (xs ++ rest).length = cap * 7) :
    w.ownsRow base 48 7 (.slice (some ⟨g, 0, none⟩) n cap) n xs :=
  ⟨hl, .inr ⟨g, cap, (xs ++ rest).toArray, rfl, hb, h, h1, h2, by simpa using h3, by simp [← hl]⟩⟩
theorem sort_none (W : World) (ao : Option Addr) (cap : Nat) : Calls Try.prog 50 #[.slice ao 0 cap, .func (.func 51) #[] #[]] W fun e w' => e = .returned (.tuple #[]) ∧ w' = W := by
  have h := AnyF.slices_SortFunc_none Try.sortC ao cap (.func (.func 51) #[] #[]) W
  change Calls Try.prog 50 _ _ _ at h
  exact h
theorem sort_any (W : World) (base : Nat) (v : Value) (C : List CH) (h : W.ownsRow base 48 7 v C.length (chs C)) (hl : C.length ≤ 65536) (hb : base ≤ W.heap.size) :
    Calls Try.prog 50 #[v, .func (.func 51) #[] #[]] W fun e w' => e = .returned (.tuple #[]) ∧ ∃ C' : List CH, C'.Perm C ∧ C'.Pairwise (fun x y => PL.nlt y.nm x.nm = false) ∧ w'.ownsRow base 48 7 v C'.length (chs C') ∧ Kp base [] W w' := by
  have hI : Inhabited CH := ⟨⟨⟨#[]⟩, np0, np0⟩⟩
  by_cases h0 : C.length = 0
  · obtain ⟨ao, cap, rfl⟩ : ∃ ao cap, v = .slice ao 0 cap := by
      rcases h.2 with ⟨rfl, _⟩ | ⟨g, cap, cur, hv, _⟩
      · exact ⟨none, 0, rfl⟩
      · rw [h0] at hv; exact ⟨_, _, hv⟩
    refine (sort_none W ao cap).mono ?_
    rintro e w' ⟨rfl, rfl⟩
    have hC : C = [] := List.eq_nil_of_length_eq_zero h0
    subst hC
    exact ⟨rfl, [], List.Perm.refl _, List.Pairwise.nil, h, Kp.refl _ _ _⟩
  · obtain ⟨g, cap, rest, rfl, hbg, hr, h1, h2, h3⟩ := owns_to_rowC h (by omega)
    refine (sort_some W g cap C rest hr hl).mono ?_
    rintro e w' ⟨rfl, C', hp, hs, hr', hg⟩
    have hl' := hp.length_eq
    refine ⟨rfl, C', hp, hs, ?_, (Kp.refl _ _ _).grown hg hb (fun k hk => .inl (by cases hk; exact hbg))⟩
    rw [hl']
    exact row_to_ownsC hbg hr' (by rw [chs_len, hl']) h1 h2 (by rw [List.length_append, chs_len, hl', ← chs_len, ← List.length_append]; exact h3)
end Go.Proofs.Qxb6600010a
