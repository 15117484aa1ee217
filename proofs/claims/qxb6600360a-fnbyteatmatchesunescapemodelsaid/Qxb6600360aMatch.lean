/-
  THE LAW FnByteAtMatchesUnescapeModel: the walk and the row.
-/
import Derived.Test.Qxb6600360aRows
import Derived.Test.Qxb6600360aUnescWalk
import Derived.WalkKit
import Derived.WalkSpells
import Derived.WalkLawsBesides
import Derived.ProofKit
import Derived.OpenShut
import Derived.ShutString
import Derived.ChangeOld
import Derived.Below
namespace Go.Proofs.Qxb6600360a.fnByteAtMatchesUnescapeModel
open Go.ChangeShapes Go.WideShapes Go.ChangeAt Go.RowKit
open Go.ChangeMaps (open_string shut_string)
set_option linter.unusedVariables false
set_option linter.unusedSimpArgs false

theorem own : ownKnob Try.prog.godebug = none := by kernel_rfl
theorem laidOut : laidOutB Try.prog = true := by kernel_rfl

set_option maxHeartbeats 400000 in
set_option maxRecDepth 100000 in
theorem new_any (t : ByteArray) (f : Nat) (w : World) :
    Calls Try.prog 13 #[.string t, .int .i64 f] w fun e w' => e = .returned (.pointer (some ⟨w.heap.size, 0, none⟩)) ∧ w' = w.alloc (.cells #[.string t, .int .i64 f, .slice none 0 0, .slice none 0 0] 38) := by
  go_enter Try.func13, Try.ntmps13
  go_wp2
  go_ret
  exact ⟨rfl, rfl⟩

set_option maxHeartbeats 400000 in
set_option maxRecDepth 100000 in
theorem bytes_any (t : ByteArray) (a b : Int) (w : World) (h : t.size ≤ maxLen) :
    Calls Try.prog 11 #[.string t, .int .i64 a, .int .i64 b] w fun e w' => e = .returned (.bool (decide (t.size ≤ 1048576))) ∧ w' = w := by
  unfold maxLen at h
  by_cases hs : t.size ≤ 1048576
  · have hd : decide (t.size ≤ 1048576) = true := by simpa using hs
    rw [hd]; clear hd
    go_enter Try.func11, Try.ntmps11
    go_wp2
    go_ret
    exact ⟨rfl, rfl⟩
  · have hd : decide (t.size ≤ 1048576) = false := by simpa using hs
    rw [hd]; clear hd
    go_enter Try.func11, Try.ntmps11
    go_wp2
    go_ret
    exact ⟨rfl, rfl⟩

set_option maxHeartbeats 400000 in
set_option maxRecDepth 100000 in
theorem at_any (B : Nat) (t : ByteArray) (f n k : Nat) (vb ve : Value) (w : World) (hs : t.size ≤ 4000000) (hf : f ≤ t.size) (h : Mid B t f n n w vb ve) :
    Calls Try.prog 14 #[.pointer (some ⟨B, 0, none⟩), .int .i64 k] w fun e w' => Done B t f n k w e w' := by
  go_enter Try.func14, Try.ntmps14
  go_wp2_with fail
  refine (byteAt_any B t f n k vb ve _ hs hf h).mono ?_
  rintro e w1 ⟨n', vb', ve', hnn, hmid, hbel, ⟨hk, rfl⟩ | ⟨hk, hps, rfl⟩⟩
  · have hfin : Done B t f n k w (.returned (.tuple #[vB (PL.bt t.data.toList f k), .bool true])) w1 := ⟨n', vb', ve', hnn, hmid, hbel, .inl ⟨hk, rfl⟩⟩
    unfold vB at hfin ⊢
    have HF : Hid (Done B t f n k w (.returned (.tuple #[.int .u8 (PL.bt t.data.toList f k).toNat, .bool true])) w1) := hfin
    clear hfin hmid hbel
    go_wp2
    go_ret2
    exact HF.out
  · have hfin : Done B t f n k w (.returned (.tuple #[.int .u8 0, .bool false])) w1 := ⟨n', vb', ve', hnn, hmid, hbel, .inr ⟨hk, hps, rfl⟩⟩
    have HF : Hid (Done B t f n k w (.returned (.tuple #[.int .u8 0, .bool false])) w1) := hfin
    clear hfin hmid hbel hps
    go_wp2
    go_ret2
    exact HF.out

theorem mid_new (t : ByteArray) (f : Nat) (w : World) : Mid w.heap.size t f 0 0 (w.alloc (.cells #[.string t, .int .i64 f, .slice none 0 0, .slice none 0 0] 38)) (.slice none 0 0) (.slice none 0 0) :=
  ⟨fun j hj => by omega, heap_alloc_new w _, World.ownsRow_nil _ _ _ _, World.ownsRow_nil _ _ _ _⟩

set_option maxHeartbeats 400000 in
set_option maxRecDepth 100000 in
theorem walk (a0 : ByteArray) (a1 : Int) (a2 : Int) (w : World) (w0 : a0.size ≤ maxLen) (w1 : (Lit.int .i64 a1).wf = true) (w2 : (Lit.int .i64 a2).wf = true) :
    Calls Try.prog 5 #[.string a0, .int .i64 a1, .int .i64 a2] w fun e w' => e = .returned (.bool true) ∧ Below w.heap.size w w' := by
  have hm := w0
  unfold maxLen at hm
  by_cases hs : a0.size ≤ 1048576
  · have hd : decide (a0.size ≤ 1048576) = true := by simpa using hs
    have c11 := bytes_any a0 a1 a2 w w0
    rw [hd] at c11
    clear hd w0 w1 w2
    by_cases h1 : a1 < 0
    · go_enter Try.func5, Try.ntmps5
      go_wp2_with (go_at_call 11; refine c11.mono ?_; rintro e w' ⟨rfl, hw⟩; rw [hw]; clear hw)
      go_ret
      exact ⟨rfl, Below.refl _ _⟩
    · obtain ⟨f, rfl⟩ := Int.eq_ofNat_of_zero_le (show 0 ≤ a1 by omega)
      have g1 : decide ((f : Int) < 0) = false := by simp
      clear h1
      by_cases h2 : (a0.size : Int) < f
      · go_enter Try.func5, Try.ntmps5
        go_wp2_with (go_at_call 11; refine c11.mono ?_; rintro e w' ⟨rfl, hw⟩; rw [hw]; clear hw)
        go_ret
        exact ⟨rfl, Below.refl _ _⟩
      · have g2 : decide ((a0.size : Int) < f) = false := by simp; omega
        by_cases h3 : a2 < 0
        · go_enter Try.func5, Try.ntmps5
          go_wp2_with (go_at_call 11; refine c11.mono ?_; rintro e w' ⟨rfl, hw⟩; rw [hw]; clear hw)
          go_ret
          exact ⟨rfl, Below.refl _ _⟩
        · obtain ⟨k, rfl⟩ := Int.eq_ofNat_of_zero_le (show 0 ≤ a2 by omega)
          have g3 : decide ((k : Int) < 0) = false := by simp
          have hf : f ≤ a0.size := by omega
          clear h2 h3
          go_enter Try.func5, Try.ntmps5
          go_wp2_with (go_at_call 11; refine c11.mono ?_; rintro e w' ⟨rfl, hw⟩; rw [hw]; clear hw)
          refine (unesc_any a0 f w (by omega) hf).mono ?_
          rintro e W1 ⟨g, cap, rfl, hown, hbel⟩
          go_wp2_with fail
          refine (new_any a0 f W1).mono ?_
          rintro e W2 ⟨rfl, rfl⟩
          go_wp2_with fail
          refine (at_any W1.heap.size a0 f 0 k _ _ _ (by omega) hf (mid_new a0 f W1)).mono ?_
          rintro e W3 ⟨n', vb', ve', hnn, hmid, hbel3, hfin⟩
          have hB : Below w.heap.size w W3 := hbel.trans (((Below.refl _ _).alloc hbel.size _).trans (hbel3.mono hbel.size))
          have hcan := hmid.can
          rcases hfin with ⟨hk, rfl⟩ | ⟨hk, hps, rfl⟩
          · have hU := PL.unesc_bytes a0.data.toList f n' hcan
            have hUk : (PL.unesc (a0.data.toList.drop f))[k]? = some (PL.bt a0.data.toList f k) := by
              rw [hU, List.getElem?_append_left (by rw [PL.bytes_len]; exact hk), PL.bytes_at _ _ _ _ hk]
            have hlen : k < (PL.unesc (a0.data.toList.drop f)).length := by
              rcases Nat.lt_or_ge k (PL.unesc (a0.data.toList.drop f)).length with h | h
              · exact h
              · rw [List.getElem?_eq_none h] at hUk; cases hUk
            have hgl := owns_block hown g rfl
            have hcell : W3.cell? ⟨g, k, none⟩ = some (.int .u8 (PL.bt a0.data.toList f k).toNat) := by
              have h1 := hown.cells (g := g) rfl k (vB (PL.bt a0.data.toList f k)) (by rw [List.getElem?_map, hUk]; rfl)
              rw [Addr.add_lit, Nat.zero_add] at h1
              rw [hbel3.cell (p := ⟨g, k, none⟩) hgl.2.1, World.cell?_alloc_lt _ _ _ hgl.2.1, h1]; rfl
            clear hU hUk hown hmid hcan hbel hbel3
            unfold vB
            generalize (PL.unesc (a0.data.toList.drop f)).length = L at *
            generalize PL.bt a0.data.toList f k = b at *
            go_wp2
            go_ret
            exact ⟨rfl, hB⟩
          · have hU := PL.unesc_len a0.data.toList f n' hcan (by rw [hps]; simp)
            have hlen : (PL.unesc (a0.data.toList.drop f)).length ≤ k := by rw [hU, PL.bytes_len]; exact hk
            clear hU hown hmid hcan hbel hbel3 hps
            generalize (PL.unesc (a0.data.toList.drop f)).length = L at *
            have hL : ¬ k < L := by omega
            go_wp2
            go_ret
            exact ⟨rfl, hB⟩
  · have hd : decide (a0.size ≤ 1048576) = false := by simpa using hs
    have c11 := bytes_any a0 a1 a2 w w0
    rw [hd] at c11
    go_enter Try.func5, Try.ntmps5
    go_wp2_with (go_at_call 11; refine c11.mono ?_; rintro e w' ⟨rfl, hw⟩; rw [hw]; clear hw)
    go_ret
    exact ⟨rfl, Below.refl _ _⟩
/-! ### THE ROW's STEP (the guide's frame, in the form with 'Below') -/
set_option maxRecDepth 100000 in
theorem lifted (os : Os) (started : os.Started) (H : Type) (enc : TypeId × Value → H) :
    ReturnsInHanded {} Try.checked os 5 .any (Rows.fnByteAtMatchesUnescapeModelSpec.pre6 enc Try.prog Try.f5 Rows.fnByteAtMatchesUnescapeModelRow.domain false) (Rows.fnByteAtMatchesUnescapeModelSpec.post enc Try.prog Try.f5 false true false false) := by
  refine returnsInHanded_of_change (C := Try.checked) own started (by kernel_rfl) Try.func5
    (ChangeSpec.witness6 (enc := enc) (C := Try.checked) false ⟨#[], #[.string ByteArray.empty, .int .i64 0, .int .i64 0], []⟩ 8 (by kernel_rfl) (by kernel_rfl) (by kernel_rfl) (by kernel_rfl)) ?_
  intro W base args ds gs before hval0 hW hcnd _
  have hval : ∀ (j : Nat) t v, Try.f5.params[j]? = some t → args[j]? = some v → Value.okWide Try.prog W .any base t v := hval0
  have hW' := hW
  obtain ⟨p, q, hA0, hV, rfl, hfz, hnd⟩ := hW
  have hA : DataW.TrodAll enc Try.prog W 0 (fun _ => true) true Try.f5.params.toList args.toList ds p := hA0
  rw [Try.params5] at hA hval
  obtain ⟨v0, vs0, d0, ds0, p0, q0, hargs, rfl, rfl, h0, r0⟩ := trodAll_cons hA
  obtain ⟨v1, vs1, d1, ds1, p1, q1, rfl, rfl, rfl, h1, r1⟩ := trodAll_cons r0
  obtain ⟨v2, vs2, d2, ds2, p2, q2, rfl, rfl, rfl, h2, r2⟩ := trodAll_cons r1
  obtain ⟨rfl, rfl, rfl⟩ := trodAll_nil r2
  obtain rfl : args = #[v0, v1, v2] := by cases args; simp_all
  obtain ⟨rfl, rfl⟩ := trodVars_none hV
  obtain ⟨a0, rfl, rfl, rfl, w0⟩ := open_string Try.underlying9 (hval 0 9 v0 rfl rfl) h0
  obtain ⟨a1, rfl, rfl, rfl, w1⟩ := open_int Try.underlying3 (hval 1 3 v1 rfl rfl) h1
  obtain ⟨a2, rfl, rfl, rfl, w2⟩ := open_int Try.underlying3 (hval 2 3 v2 rfl rfl) h2
  clear hA0 hval0
  refine (walk a0 a1 a2 W w0 w1 w2).mono fun e W' ⟨he, bel⟩ => ?_
  subst he
  exact ⟨_, rfl, _, _, _, [], _, [], hW', trodAll_mk1 (shut_bool Try.underlying4 _), (trodAll_cons_mk (shut_string Try.underlying9 w0) (trodAll_cons_mk (shut_int Try.underlying3 w1) (trodAll_cons_mk (shut_int Try.underlying3 w2) trodAll_mk0))), rfl, bel.frame _, fun h => by cases h⟩

theorem over : Rows.fnByteAtMatchesUnescapeModelRow.holds Try.pinned (OpenSpec.ofChange Rows.fnByteAtMatchesUnescapeModelSpec) :=
  OpenClaim.holds_of_wide 5 Try.f5 rfl rfl rfl rfl rfl rfl rfl ⟨rfl, rfl, rfl, rfl, rfl⟩ rfl rfl rfl rfl rfl (by kernel_rfl) Try.func5 (by kernel_rfl)
    (of_decide_eq_true (by kernel_rfl)) (by unfold Func.isWrapper; first | (rw [if_pos (by decide +kernel)]; kernel_rfl) | (rw [if_neg (by decide +kernel)]; exact ⟨rfl, rfl⟩))
    (fun os started H enc _ => lifted os started H enc)

/-- THE STATEMENT -/
theorem proved : Rows.FnByteAtMatchesUnescapeModelSaid :=
  over
#print axioms proved
end Go.Proofs.Qxb6600360a.fnByteAtMatchesUnescapeModel
