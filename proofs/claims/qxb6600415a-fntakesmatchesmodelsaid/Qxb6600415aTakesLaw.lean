/-
  THE LAW FnTakesMatchesModel: the walk and the row.
-/
import Derived.Test.Qxb6600415aTakes
import Derived.Test.Qxb6600415aModel
import Derived.SliceStrings
import Derived.ProofKit
import Derived.OpenShut
import Derived.ShutString
import Derived.ChangeOld
import Derived.Below
namespace Go.Proofs.Qxb6600415a.fnTakesMatchesModel
open Go.ChangeShapes Go.WideShapes Go.ChangeAt Go.RowKit
open Go.ChangeMaps (open_string shut_string)
set_option linter.unusedVariables false
set_option linter.unusedSimpArgs false

set_option maxHeartbeats 1000000 in
set_option maxRecDepth 100000 in
theorem walk (k : ByteArray) (ao : Option Addr) (n c : Nat) (ss : List ByteArray) (bl : Bool) (w : World) (hk : k.size ≤ maxLen) (hn : n ≤ maxLen) (hs : ∀ (i : Nat) (h : i < ss.length), ss[i].size ≤ maxLen) (h : StrsAt w ao n ss) :
    Calls Try.prog 6 #[.string k, .slice ao n c, .bool bl] w fun e w' => e = .returned (.bool true) ∧ Below w.heap.size w w' := by
  have c17 := total_any k ao n c ss bl w hk hn hs h
  unfold maxLen at hk hn
  clear hs
  go_enter Try.func6, Try.ntmps6
  go_wp2_with fail
  refine c17.mono ?_
  rintro e w' ⟨r, rfl, hr, rfl⟩
  clear c17
  cases r with
  | false =>
    go_wp2
    go_ret
    exact ⟨rfl, Below.refl _ _⟩
  | true =>
    have hr' := hr rfl
    clear hr
    have g1 : decide ((1048576 : Int) < (k.size : Int)) = false := by simp; omega
    by_cases hn2 : n ≤ 65536
    · have g2 : decide ((65536 : Int) < (n : Int)) = false := by simp; omega
      have c8 := bytesOK_any ao n c k.size ss w hr' h
      go_wp2_with fail
      refine c8.mono ?_
      rintro e w' ⟨r, rfl, hr, rfl⟩
      clear c8 hr
      cases r with
      | false =>
        go_wp2
        go_ret
        exact ⟨rfl, Below.refl _ _⟩
      | true =>
        go_wp2_with fail
        refine (clone_any ao n c ss w (by omega) h).mono ?_
        rintro e w1 ⟨ao1, rfl, h1, hb1⟩
        clear h
        go_wp2_with fail
        refine (zztakes_any k ao1 n ss bl w1 h1 (by omega) hn2 (by omega)).mono ?_
        rintro e w2 ⟨rfl, hb2⟩
        have h2 := strs_below h1 hb2
        have hB : Below w.heap.size w w2 := hb1.trans (hb2.mono hb1.size)
        have hl := h1.len
        rcases Nat.eq_zero_or_pos n with e | e
        · subst e
          have hsay : says k ss = k ++ cNo := by unfold says; rw [if_pos hl]
          rw [hsay]
          have a1 := add_run k cNo (by have : cNo.size = 15 := rfl; omega)
          clear hsay h1 h2 hl hb1 hb2
          unfold cNo at *
          go_wp2
          go_ret
          exact ⟨rfl, hB⟩
        · have hsay : says k ss = k ++ cOnly ++ strOf (PL.wordL (wsOf ss) cAnd.data.toList) := by unfold says; rw [if_neg (by omega)]
          rw [hsay]
          have hn0 : ((n : Int) == 0) = false := by rw [beq_eq_false_iff_ne]; omega
          have c11 := model_any ao1 n n ss cAnd w2 h2 hn2 (by omega) (by decide)
          have he : (⟨(PL.modelTo (wsOf ss) cAnd.data.toList (wsOf ss).length).toArray⟩ : ByteArray) = strOf (PL.wordL (wsOf ss) cAnd.data.toList) := by rw [PL.model_eq]; rfl
          rw [he] at c11
          have hwl := wordL_len ss n hl hn2 (by omega)
          have z := strOf_size (PL.wordL (wsOf ss) cAnd.data.toList)
          have z2 : cOnly.size = 12 := rfl
          have a1 := add_run k cOnly (by omega)
          have a2 := add_run (k ++ cOnly) (strOf (PL.wordL (wsOf ss) cAnd.data.toList)) (by rw [ByteArray.size_append]; omega)
          clear he hsay h1 h2 hl hb1 hb2 hwl z z2
          generalize strOf (PL.wordL (wsOf ss) cAnd.data.toList) = S at *
          unfold cOnly at *
          unfold cAnd at c11
          go_wp2_with fail
          refine c11.mono ?_
          rintro e w3 ⟨rfl, hb3⟩
          have hB3 : Below w.heap.size w w3 := hB.trans (hb3.mono hB.size)
          clear hb3 hB c11
          go_wp2
          go_ret
          exact ⟨by simp, hB3⟩
    · have g2 : decide ((65536 : Int) < (n : Int)) = true := by simp; omega
      go_wp2
      go_ret
      exact ⟨rfl, Below.refl _ _⟩

theorem own : ownKnob Try.prog.godebug = none := by kernel_rfl
theorem laidOut : laidOutB Try.prog = true := by kernel_rfl

theorem strs_of {w : World} {x : Addr} {n cap : Nat} {ss : List ByteArray} (hl : n ≤ cap) (hlen : ss.length = cap) (h : ∀ i, i < ss.length → w.cell? (x.add i) = some (.string (ss.getD i ByteArray.empty))) : StrsAt w (some x) n (ss.take n) := by
  refine ⟨by rw [List.length_take]; omega, fun h0 => ?_⟩
  have hx := h 0 (by omega)
  obtain ⟨b, o, sp⟩ := x
  have hsp : sp = none := by
    cases sp with
    | none => rfl
    | some q =>
      simp only [Addr.add, if_true, World.cell?] at hx
      split at hx <;> simp at hx
  subst hsp
  refine ⟨b, o, rfl, ?_, fun i hi => ?_⟩
  · rw [Addr.add_lit] at hx
    exact World.block_lt_of_cell? w _ hx
  · rw [List.length_take] at hi
    have := h i (by omega)
    rw [Addr.add_lit] at this
    rw [this, List.getElem_take, List.getD_eq_getElem?_getD, List.getElem?_eq_getElem (by omega)]
    rfl

/-! ### THE ROW's STEP (the guide's frame, in the form with 'Below') -/
set_option maxRecDepth 100000 in
theorem lifted (os : Os) (started : os.Started) (H : Type) (enc : TypeId × Value → H) :
    ReturnsInHanded {} Try.checked os 6 .any (Rows.fnTakesMatchesModelSpec.pre6 enc Try.prog Try.f6 Rows.fnTakesMatchesModelRow.domain false) (Rows.fnTakesMatchesModelSpec.post enc Try.prog Try.f6 false true false false) := by
  refine returnsInHanded_of_change (C := Try.checked) own started (by kernel_rfl) Try.func6
    (ChangeSpec.witness6 (enc := enc) (C := Try.checked) false ⟨#[], #[.string ByteArray.empty, .slice none 0 0, .bool false], []⟩ 8 (by kernel_rfl) (by kernel_rfl) (by kernel_rfl) (by kernel_rfl)) ?_
  intro W base args ds gs before hval0 hW hcnd _
  have hval : ∀ (j : Nat) t v, Try.f6.params[j]? = some t → args[j]? = some v → Value.okWide Try.prog W .any base t v := hval0
  have hW' := hW
  obtain ⟨p, q, hA0, hV, rfl, hfz, hnd⟩ := hW
  have hA : DataW.TrodAll enc Try.prog W 0 (fun _ => true) true Try.f6.params.toList args.toList ds p := hA0
  rw [Try.params6] at hA hval
  obtain ⟨v0, vs0, d0, ds0, p0, q0, hargs, rfl, rfl, h0, r0⟩ := trodAll_cons hA
  obtain ⟨v1, vs1, d1, ds1, p1, q1, rfl, rfl, rfl, h1, r1⟩ := trodAll_cons r0
  obtain ⟨v2, vs2, d2, ds2, p2, q2, rfl, rfl, rfl, h2, r2⟩ := trodAll_cons r1
  obtain ⟨rfl, rfl, rfl⟩ := trodAll_nil r2
  obtain rfl : args = #[v0, v1, v2] := by cases args; simp_all
  obtain ⟨rfl, rfl⟩ := trodVars_none hV
  obtain ⟨a0, rfl, rfl, rfl, w0⟩ := open_string Try.underlying9 (hval 0 9 v0 rfl rfl) h0
  obtain ⟨a1, len1, cap1, rfl⟩ := okWide_slice Try.underlying22 (hval 1 22 v1 rfl rfl)
  obtain ⟨a2, rfl, rfl, rfl⟩ := open_bool Try.underlying4 (hval 2 4 v2 rfl rfl) h2
  have k1 := h1
  have lt1 : ∀ x ∈ p1, x.block < W.heap.size := by obtain ⟨m, hm⟩ := k1; exact DataW.trod_lt m _ _ _ hm
  obtain ⟨ss, w1, hl1, hss⟩ : ∃ ss, StrsAt W a1 len1 ss ∧ len1 ≤ maxLen ∧ ∀ (i : Nat) (h : i < ss.length), ss[i].size ≤ maxLen := by
    obtain ⟨fuel, hf⟩ := h1
    rcases open_strings Try.underlying22 Try.underlying9 (by kernel_rfl) hf with ⟨hcs, _⟩ | ⟨x, l, cp, ss, hcs, _, hl, hm, hz, _, hcell, hws⟩
    · simp [Value.cells] at hcs
      obtain ⟨rfl, rfl, rfl⟩ := hcs
      exact ⟨[], ⟨rfl, fun e => by omega⟩, Nat.zero_le _, fun i h => by simp at h⟩
    · simp [Value.cells] at hcs
      obtain ⟨rfl, rfl, rfl⟩ := hcs
      simp only [if_true] at hz
      exact ⟨ss.take len1, strs_of hl hz hcell, Nat.le_trans hl hm, fun i h => hws _ (List.mem_of_mem_take (List.getElem_mem h))⟩
  clear hA0 hval0
  refine (walk a0 a1 len1 cap1 ss a2 W w0 hl1 hss w1).mono fun e W' ⟨he, bel⟩ => ?_
  subst he
  exact ⟨_, rfl, _, _, _, [], _, [], hW', trodAll_mk1 (shut_bool Try.underlying4 _), (trodAll_cons_mk (shut_string Try.underlying9 w0) (trodAll_cons_mk (Below.trod laidOut (by kernel_rfl) (of_decide_eq_true (by kernel_rfl)) k1 bel lt1) (trodAll_cons_mk (shut_bool Try.underlying4 a2) trodAll_mk0))), rfl, bel.frame _, fun h => by cases h⟩

theorem over : Rows.fnTakesMatchesModelRow.holds Try.pinned (OpenSpec.ofChange Rows.fnTakesMatchesModelSpec) :=
  OpenClaim.holds_of_wide 6 Try.f6 rfl rfl rfl rfl rfl rfl rfl ⟨rfl, rfl, rfl, rfl, rfl⟩ rfl rfl rfl rfl rfl (by kernel_rfl) Try.func6 (by kernel_rfl)
    (of_decide_eq_true (by kernel_rfl)) (by unfold Func.isWrapper; first | (rw [if_pos (by decide +kernel)]; kernel_rfl) | (rw [if_neg (by decide +kernel)]; exact ⟨rfl, rfl⟩))
    (fun os started H enc _ => lifted os started H enc)

/-- THE STATEMENT -/
theorem proved : Rows.FnTakesMatchesModelSaid :=
  over
#print axioms proved
end Go.Proofs.Qxb6600415a.fnTakesMatchesModel
