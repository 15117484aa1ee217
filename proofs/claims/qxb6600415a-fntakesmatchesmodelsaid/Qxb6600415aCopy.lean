/-
  THE WALKS of the two bounds on length and of the copy of the words.
-/
import Derived.Test.Qxb6600415aRows
import Derived.Test.Qxb6600415aPlain
import Derived.WalkKit
import Derived.WalkSpells
import Derived.WalkLawsBesides
import Derived.Deep.LoopGhost
import Derived.Deep.DeepCutAuto
import Derived.Deep.AppendLies
namespace Go.Proofs.Qxb6600415a
open Go.RowKit
set_option linter.unusedVariables false
set_option linter.unusedSimpArgs false

/-- The words as lists of bytes. -/
def wsOf (ss : List ByteArray) : List PL.Bs := ss.map (·.data.toList)

theorem wsOf_len (ss : List ByteArray) : (wsOf ss).length = ss.length := by simp [wsOf]
theorem wsOf_at (ss : List ByteArray) (j : Nat) (h : j < ss.length) : ((wsOf ss)[j]'(by rw [wsOf_len]; exact h)).length = ss[j].size := by simp [wsOf]

/-- A slice of strings in memory. -/
structure StrsAt (w : World) (ao : Option Addr) (n : Nat) (ss : List ByteArray) : Prop where
  len : ss.length = n
  at_ : 0 < n → ∃ b o, ao = some ⟨b, o, none⟩ ∧ b < w.heap.size ∧ ∀ i (h : i < ss.length), w.cell? ⟨b, o + i, none⟩ = some (.string ss[i])

theorem strs_below {w w' : World} {ao : Option Addr} {n : Nat} {ss : List ByteArray} (h : StrsAt w ao n ss) (hb : Below w.heap.size w w') : StrsAt w' ao n ss :=
  ⟨h.len, fun h0 => by
    obtain ⟨b, o, e, hlt, hc⟩ := h.at_ h0
    exact ⟨b, o, e, Nat.lt_of_lt_of_le hlt hb.size, fun i hi => (hb.cell (p := ⟨b, o + i, none⟩) hlt).trans (hc i hi)⟩⟩

theorem sz_step (ss : List ByteArray) (j : Nat) (h : j < ss.length) : PL.sz ((wsOf ss).take (j + 1)) = PL.sz ((wsOf ss).take j) + ss[j].size := by
  rw [PL.sz_take_succ _ j (by rw [wsOf_len]; exact h), wsOf_at ss j h]
theorem sz_all (ss : List ByteArray) : PL.sz ((wsOf ss).take ss.length) = PL.sz (wsOf ss) := by
  rw [← wsOf_len, List.take_length]

set_option maxHeartbeats 1000000 in
set_option maxRecDepth 100000 in
theorem total_any (k : ByteArray) (ao : Option Addr) (n c : Nat) (ss : List ByteArray) (b : Bool) (w : World) (hk : k.size ≤ maxLen) (hn : n ≤ maxLen) (hs : ∀ (i : Nat) (h : i < ss.length), ss[i].size ≤ maxLen) (h : StrsAt w ao n ss) :
    Calls Try.prog 17 #[.string k, .slice ao n c, .bool b] w fun e w' => ∃ r : Bool, e = .returned (.bool r) ∧ (r = true → k.size + n + PL.sz (wsOf ss) ≤ 1048576) ∧ w = w' := by
  unfold maxLen at hk hn
  by_cases h1 : k.size ≤ 1048576
  · by_cases h2 : n ≤ 1048576
    · by_cases h3 : k.size + n ≤ 1048576
      · go_enter Try.func17, Try.ntmps17
        go_wp2
        go_loopg [7, 8] n (fun g z i wr => ∃ j : Nat, g = n - j ∧ j ≤ n ∧ i = .int .i64 j ∧ z = .int .i64 ((k.size + n + PL.sz ((wsOf ss).take j) : Nat) : Int) ∧ k.size + n + PL.sz ((wsOf ss).take j) ≤ 1048576 ∧ wr = w)
        case atStart => exact ⟨0, rfl, by omega, rfl, by simp [PL.sz], by simpa [PL.sz] using h3, rfl⟩
        case round =>
          obtain ⟨j, rfl, hj, rfl, rfl, hle, rfl⟩ := hrel
          by_cases hlt : j < n
          · obtain ⟨bb, o, rfl, hb, hc⟩ := h.at_ (by omega)
            have hjl : j < ss.length := by rw [h.len]; exact hlt
            have hcell := hc j hjl
            have hsj := hs j hjl
            have hst := sz_step ss j hjl
            have HST : Hid (PL.sz ((wsOf ss).take (j + 1)) = PL.sz ((wsOf ss).take j) + ss[j].size) := hst
            unfold maxLen at hsj
            clear hc hs hst
            obtain ⟨x, hx⟩ : ∃ x, x = ss[j] := ⟨_, rfl⟩
            rw [← hx] at hcell hsj HST
            clear hx
            generalize PL.sz ((wsOf ss).take j) = q at *
            by_cases h4 : x.size ≤ 1048576
            · by_cases h5 : k.size + n + q + x.size ≤ 1048576
              · go_wp2
                go_roundg (n - (j + 1))
                case measure => omega
                case rel => exact ⟨j + 1, rfl, by omega, by go_num, by rw [HST.out]; go_num, by rw [HST.out]; omega, rfl⟩
              · go_wp2
                go_ret
                exact ⟨false, rfl, by simp, rfl⟩
            · go_wp2
              go_ret
              exact ⟨false, rfl, by simp, rfl⟩
          · have e : j = n := by omega
            subst e
            have hfin : k.size + j + PL.sz (wsOf ss) ≤ 1048576 := by rw [← sz_all, h.len]; exact hle
            clear hs
            go_wp2
            go_ret
            exact ⟨true, rfl, fun _ => hfin, rfl⟩
      · clear hs
        go_enter Try.func17, Try.ntmps17
        go_wp2
        go_ret
        exact ⟨false, rfl, by simp, rfl⟩
    · clear hs
      by_cases h4 : (1048576 : Int) < (n : Int)
      · go_enter Try.func17, Try.ntmps17
        go_wp2
        go_ret
        exact ⟨false, rfl, by simp, rfl⟩
      · omega
  · clear hs
    go_enter Try.func17, Try.ntmps17
    go_wp2
    go_ret
    exact ⟨false, rfl, by simp, rfl⟩

set_option maxHeartbeats 1000000 in
set_option maxRecDepth 100000 in
theorem bytesOK_any (ao : Option Addr) (n c k : Nat) (ss : List ByteArray) (w : World) (hk : k + n + PL.sz (wsOf ss) ≤ 1048576) (h : StrsAt w ao n ss) :
    Calls Try.prog 8 #[.slice ao n c, .int .i64 k] w fun e w' => ∃ r : Bool, e = .returned (.bool r) ∧ (r = true → n ≤ 65536) ∧ w = w' := by
  have g1 : decide ((k : Int) < 0) = false := by simp
  have g2 : decide ((1048576 : Int) < (k : Int)) = false := by simp; omega
  by_cases h1 : n ≤ 65536
  · have g3 : decide ((65536 : Int) < (n : Int)) = false := by simp; omega
    by_cases h2 : 16 * n + k ≤ 1048576
    · go_enter Try.func8, Try.ntmps8
      go_wp2
      go_loopg [5, 6] n (fun g z i wr => ∃ j : Nat, g = n - j ∧ j ≤ n ∧ i = .int .i64 j ∧ z = .int .i64 ((16 * n + k + PL.sz ((wsOf ss).take j) : Nat) : Int) ∧ wr = w)
      case atStart => exact ⟨0, rfl, by omega, rfl, by simp [PL.sz], rfl⟩
      case round =>
        obtain ⟨j, rfl, hj, rfl, rfl, rfl⟩ := hrel
        by_cases hlt : j < n
        · obtain ⟨bb, o, rfl, hb, hc⟩ := h.at_ (by omega)
          have hjl : j < ss.length := by rw [h.len]; exact hlt
          have hcell := hc j hjl
          have hle := PL.sz_take_le (wsOf ss) (j + 1)
          have hst := sz_step ss j hjl
          rw [hst] at hle
          have HST : Hid (PL.sz ((wsOf ss).take (j + 1)) = PL.sz ((wsOf ss).take j) + ss[j].size) := hst
          clear hc hst
          obtain ⟨x, hx⟩ : ∃ x, x = ss[j] := ⟨_, rfl⟩
          rw [← hx] at hcell HST hle
          clear hx
          generalize PL.sz ((wsOf ss).take j) = q at *
          have hq : q + x.size ≤ 1048576 := by omega
          clear hle
          by_cases h5 : 16 * n + k + q + x.size ≤ 1048576
          · go_wp2
            go_roundg (n - (j + 1))
            case measure => omega
            case rel => exact ⟨j + 1, rfl, by omega, by go_num, by rw [HST.out]; go_num, rfl⟩
          · go_wp2
            go_ret
            exact ⟨false, rfl, by simp, rfl⟩
        · go_wp2
          go_ret
          exact ⟨true, rfl, fun _ => h1, rfl⟩
    · go_enter Try.func8, Try.ntmps8
      go_wp2
      go_ret
      exact ⟨false, rfl, by simp, rfl⟩
  · go_enter Try.func8, Try.ntmps8
    go_wp2
    go_ret
    exact ⟨rfl, rfl⟩

theorem info9 : (Try.prog.info? 9).map (fun i => (i.zero, i.size, i.bytes)) = some (some (.string ⟨#[]⟩), 1, 16) := by kernel_rfl

/-- The copy of the words, j cells done. -/
def part (ss : List ByteArray) (j : Nat) : List Value := (List.range ss.length).map fun i => if i < j then .string (ss[i]?.getD ⟨#[]⟩) else .string ⟨#[]⟩
theorem part_zero (ss : List ByteArray) : part ss 0 = List.replicate ss.length (.string ⟨#[]⟩) := by
  apply List.ext_getElem <;> simp [part]
theorem part_set (ss : List ByteArray) (j : Nat) (h : j < ss.length) : (part ss j).set j (.string ss[j]) = part ss (j + 1) := by
  apply List.ext_getElem
  · simp [part]
  · intro i h1 h2
    simp only [part, List.getElem_set, List.getElem_map, List.getElem_range]
    by_cases e : j = i
    · subst e; simp [h]
    · rw [if_neg e]
      by_cases h : i < j
      · rw [if_pos h, if_pos (by omega)]
      · rw [if_neg h, if_neg (by omega)]
theorem part_at (ss : List ByteArray) (i : Nat) (h : i < ss.length) : (part ss ss.length)[i]? = some (.string ss[i]) := by simp [part, h]

set_option maxHeartbeats 1000000 in
set_option maxRecDepth 100000 in
theorem clone_any (ao : Option Addr) (n c : Nat) (ss : List ByteArray) (w : World) (hn : n ≤ 1048576) (h : StrsAt w ao n ss) :
    Calls Try.prog 9 #[.slice ao n c] w fun e w' => ∃ ao', e = .returned (.slice ao' n n) ∧ StrsAt w' ao' n ss ∧ Below w.heap.size w w' := by
  obtain ⟨i9, hi9, hz0, hz1, hz2⟩ := info_parts info9
  have heq := fun (w : World) (a : Option Addr) (n c : Nat) => Lib.run_eql_slice_nil (P := Try.prog) w 22 9 a n c 0 0 Try.underlying22
  cases ao with
  | none =>
    have hn0 : n = 0 := by
      rcases Nat.eq_zero_or_pos n with e | e
      · exact e
      · obtain ⟨_, _, e, _⟩ := h.at_ e; cases e
    subst hn0
    go_enter Try.func9, Try.ntmps9
    go_wp2
    go_ret
    exact ⟨none, rfl, ⟨h.len, fun e => by omega⟩, Below.refl _ _⟩
  | some x =>
    go_enter Try.func9, Try.ntmps9
    go_wp2_with (at_make; refine wpList_make_full _ rfl _ _ 22 rfl w.heap.size 9 i9 (.string ⟨#[]⟩) 1 Try.underlying22 hi9 hz0 hz1 _ _ _ _ n rfl rfl rfl rfl (by rw [hz2]; omega) (by unfold maxLen; omega) (by omega) ?_; intro w1 hown hgrow)
    have hR : w1.ownsRow w.heap.size 9 1 (.slice (some ⟨w.heap.size, 0, none⟩) n n) n (part ss 0) := by rw [part_zero, h.len]; simpa [toList_madeCells_one, Value.cells] using hown
    have hB : Below w.heap.size w w1 := (Below.refl _ _).grown hgrow (by omega) (by simp)
    have HX : Hid (StrsAt w (some x) n ss) := h
    clear hown hgrow h
    go_loopg [4] n (fun k j wr => ∃ jn : Nat, k = n - jn ∧ jn ≤ n ∧ j = .int .i64 jn ∧ wr.ownsRow w.heap.size 9 1 (.slice (some ⟨w.heap.size, 0, none⟩) n n) n (part ss jn) ∧ Below w.heap.size w wr)
    case atStart => exact ⟨0, rfl, by omega, rfl, hR, hB⟩
    case round =>
      clear hR hB
      obtain ⟨j, rfl, hj, rfl, hR, hB⟩ := hrel
      by_cases hlt : j < n
      · obtain ⟨b, o, e, hb, hc⟩ := HX.out.at_ (by omega)
        cases e
        have hjl : j < ss.length := by rw [HX.out.len]; exact hlt
        have hcell := (hB.cell (p := ⟨b, o + j, none⟩) hb).trans (hc j hjl)
        have hst : wr.cell? ⟨w.heap.size, j, none⟩ = some (.string ⟨#[]⟩) := by rw [hR.cellAt j (by omega)]; simp [part, hjl]
        have hfz := hR.frozenAt j
        have hR' := (hR.stored j (.string ss[j])).1
        rw [part_set ss j hjl] at hR'
        have hB' := hB.setCell (p := ⟨w.heap.size, j, none⟩) (Nat.le_refl _) (.string ss[j])
        clear hc hR hB
        go_wp2
        go_roundg (n - (j + 1))
        case measure => omega
        case rel => exact ⟨j + 1, rfl, by omega, by go_num, hR', hB'⟩
      · have e : j = n := by omega
        subst e
        have hl := HX.out.len
        have hfin : StrsAt wr (some ⟨w.heap.size, 0, none⟩) j ss := ⟨hl, fun _ => ⟨w.heap.size, 0, rfl, (hR.lt _ rfl).2, fun i hi => by
          rw [Nat.zero_add, hR.cellAt i (by omega), ← hl, part_at ss i hi]⟩⟩
        clear hl HX
        go_wp2
        go_ret
        exact ⟨_, rfl, hfin, hB⟩
end Go.Proofs.Qxb6600415a
