/-
  THE WALKS of takes and ZZTakes.
-/
import Derived.Test.Qxb6600415aWordList
namespace Go.Proofs.Qxb6600415a
open Go.RowKit
set_option linter.unusedVariables false
set_option linter.unusedSimpArgs false

def cNo : ByteArray := ⟨#[32, 116, 97, 107, 101, 115, 32, 110, 111, 32, 118, 97, 108, 117, 101]⟩
def cOnly : ByteArray := ⟨#[32, 116, 97, 107, 101, 115, 32, 111, 110, 108, 121, 32]⟩
def cAnd : ByteArray := ⟨#[97, 110, 100]⟩

/-- What takes says. -/
def says (k : ByteArray) (ss : List ByteArray) : ByteArray := if ss.length = 0 then k ++ cNo else k ++ cOnly ++ strOf (PL.wordL (wsOf ss) cAnd.data.toList)

theorem wordL_len (ss : List ByteArray) (n : Nat) (hl : ss.length = n) (hn : n ≤ 65536) (hz : PL.sz (wsOf ss) ≤ 1048576) : (PL.wordL (wsOf ss) cAnd.data.toList).length ≤ 4000000 := by
  rw [← PL.model_eq]
  have h1 := PL.modelTo_len (wsOf ss) cAnd.data.toList (wsOf ss).length (Nat.le_refl _)
  rw [wsOf_len, sz_all, hl] at h1
  have h3 : cAnd.data.toList.length = 3 := rfl
  rw [h3] at h1
  rw [wsOf_len, hl]
  omega

set_option maxHeartbeats 1000000 in
set_option maxRecDepth 100000 in
theorem takes_any (k : ByteArray) (ao : Option Addr) (n : Nat) (ss : List ByteArray) (bl : Bool) (w : World) (h : StrsAt w ao n ss) (hk : k.size ≤ 1048576) (hn : n ≤ 65536) (hz : PL.sz (wsOf ss) ≤ 1048576) :
    Calls Try.prog 21 #[.agg #[.string k, .slice ao n n, .bool bl]] w fun e w' => e = .returned (.string (says k ss)) ∧ Below w.heap.size w w' := by
  have hl := h.len
  rcases Nat.eq_zero_or_pos n with e | e
  · subst e
    have hs : says k ss = k ++ cNo := by unfold says; rw [if_pos hl]
    rw [hs]
    have a1 := add_run k cNo (by have : cNo.size = 15 := rfl; omega)
    clear hs h hl
    unfold cNo at *
    go_enter Try.func21, Try.ntmps21
    go_wp2
    go_ret
    exact ⟨rfl, (Below.refl _ _).alloc (Nat.le_refl _) _⟩
  · have hs : says k ss = k ++ cOnly ++ strOf (PL.wordL (wsOf ss) cAnd.data.toList) := by unfold says; rw [if_neg (by omega)]
    rw [hs]
    have hwl := wordL_len ss n hl hn hz
    have z := strOf_size (PL.wordL (wsOf ss) cAnd.data.toList)
    have z2 : cOnly.size = 12 := rfl
    have a1 := add_run k cOnly (by omega)
    have a2 := add_run (k ++ cOnly) (strOf (PL.wordL (wsOf ss) cAnd.data.toList)) (by rw [ByteArray.size_append]; omega)
    have C19 : Hid (∀ W : World, StrsAt W ao n ss → Calls Try.prog 19 #[.slice ao n n, .string cAnd] W fun e w' => e = .returned (.string (strOf (PL.wordL (wsOf ss) cAnd.data.toList))) ∧ Below W.heap.size W w') :=
      fun W hW => wordList_any ao n ss cAnd W hW hn hz (by decide)
    have HS : Hid (StrsAt w ao n ss) := h
    have hn0 : ((n : Int) == 0) = false := by rw [beq_eq_false_iff_ne]; omega
    clear hs h hl hwl z z2
    unfold cOnly at *
    generalize strOf (PL.wordL (wsOf ss) cAnd.data.toList) = S at *
    unfold cAnd at C19
    go_enter Try.func21, Try.ntmps21
    go_wp2_with fail
    go_region_with (go_at_call 19; refine (C19.out _ ?_).mono ?_; (exact strs_below HS.out (((Below.refl _ _).alloc (Nat.le_refl _) _).drew)); rintro e w1 ⟨rfl, hb1⟩; have hcell0 : w1.cell? ⟨w.heap.size, 0, none⟩ = some (.string k) := (hb1.cell (p := ⟨w.heap.size, 0, none⟩) (by simp)).trans (by simp))
    all_goals go_wp2
    all_goals go_ret
    all_goals exact ⟨rfl, ((Below.refl _ _).alloc (Nat.le_refl _) _).drew.trans (hb1.mono (by simp))⟩

set_option maxHeartbeats 400000 in
set_option maxRecDepth 100000 in
theorem zztakes_any (k : ByteArray) (ao : Option Addr) (n : Nat) (ss : List ByteArray) (bl : Bool) (w : World) (h : StrsAt w ao n ss) (hk : k.size ≤ 1048576) (hn : n ≤ 65536) (hz : PL.sz (wsOf ss) ≤ 1048576) :
    Calls Try.prog 18 #[.string k, .slice ao n n, .bool bl] w fun e w' => e = .returned (.string (says k ss)) ∧ Below w.heap.size w w' := by
  have c21 := takes_any k ao n ss bl w h hk hn hz
  clear h
  go_enter Try.func18, Try.ntmps18
  go_wp2_with (go_at_call 21; refine c21.mono ?_; rintro e w' ⟨rfl, hb⟩)
  go_ret
  exact ⟨rfl, by assumption⟩
end Go.Proofs.Qxb6600415a
