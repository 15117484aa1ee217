/-
  THE WALKS of wordList, takes, ZZTakes and of the model's list.
-/
import Derived.Test.Qxb6600415aCopy
import Derived.Test.Qxb6600415aShelf
import Derived.WalkKit
import Derived.WalkSpells
import Derived.WalkLawsBesides
import Derived.Deep.LoopGhost
import Derived.Deep.DeepCutAuto
import Derived.Deep.AppendLies
import Derived.Deep.RegionWith
import Derived.Lib.AppendStr
namespace Go.Proofs.Qxb6600415a
open Go.RowKit
set_option linter.unusedVariables false
set_option linter.unusedSimpArgs false

/-- A list of bytes as a string. -/
def strOf (l : PL.Bs) : ByteArray := ⟨l.toArray⟩
theorem strOf_size (l : PL.Bs) : (strOf l).size = l.length := by simp [strOf, ByteArray.size]
theorem strOf_app (a b : PL.Bs) : strOf a ++ strOf b = strOf (a ++ b) := by
  unfold strOf; exact ByteArray.mk_append_mk a b
theorem strOf_self (s : ByteArray) : strOf s.data.toList = s := by simp [strOf]

theorem add_run (a b : ByteArray) (h : a.size + b.size ≤ 9223372036854775807) : ∀ W : World, (Op.stringOp .add a b).run Try.prog W = .ok (.string (a ++ b)) W := fun W => run_string_add_sum W a b h

/-- The first m words, joined. -/
theorem join_take {w : World} {b o n c : Nat} {ss : List ByteArray} (h : StrsAt w (some ⟨b, o, none⟩) n ss) (h0 : 0 < n) (m : Nat) (hm : m ≤ n) (hmc : m ≤ c) (sep : ByteArray) (hn : n ≤ 1048576)
    (hj : (Lib.join ((wsOf ss).take m) sep.data.toList).length ≤ 140737488355328) :
    Calls Try.prog 22 #[.slice (some ⟨b, o, none⟩) m c, .string sep] w fun e w' => e = .returned (.string (strOf (Lib.join ((wsOf ss).take m) sep.data.toList))) ∧ Below w.heap.size w w' := by
  obtain ⟨b', o', e, hb, hc⟩ := h.at_ h0
  cases e
  have hl : (ss.take m).length = m := by rw [List.length_take, h.len]; omega
  have ew : (ss.take m).map (·.data.toList) = (wsOf ss).take m := by simp [wsOf]
  have c1 := Try.strings_Join b o c (ss.take m) sep w (fun j x hx => by
    rw [List.getElem?_take] at hx
    split at hx
    · obtain ⟨hj, rfl⟩ := List.getElem?_eq_some_iff.1 hx
      exact hc j hj
    · cases hx) hb (by omega) (by omega) (by rw [ew]; exact hj)
  rw [hl, ew] at c1
  exact c1

set_option maxHeartbeats 1000000 in
set_option maxRecDepth 100000 in
theorem wordList_any (ao : Option Addr) (n : Nat) (ss : List ByteArray) (conj : ByteArray) (w : World) (h : StrsAt w ao n ss) (hn : n ≤ 65536) (hz : PL.sz (wsOf ss) ≤ 1048576) (hcj : conj.size ≤ 100) :
    Calls Try.prog 19 #[.slice ao n n, .string conj] w fun e w' => e = .returned (.string (strOf (PL.wordL (wsOf ss) conj.data.toList))) ∧ Below w.heap.size w w' := by
  rcases Nat.lt_or_ge n 2 with h2 | h2
  · have hl : (wsOf ss).length < 2 := by rw [wsOf_len, h.len]; exact h2
    have hw : PL.wordL (wsOf ss) conj.data.toList = Lib.join (wsOf ss) [] := by unfold PL.wordL; rw [if_pos hl]
    rw [hw]
    rcases Nat.eq_zero_or_pos n with e | e
    · subst e
      have hnil : wsOf ss = [] := List.eq_nil_of_length_eq_zero (by rw [wsOf_len, h.len])
      have c22 := Try.strings_Join_none ao 0 ⟨#[]⟩ w
      rw [hnil]
      go_enter Try.func19, Try.ntmps19
      go_wp2_with (go_at_call 22; refine c22.mono ?_; rintro e w' ⟨rfl, hw⟩; rw [hw])
      go_ret
      exact ⟨rfl, Below.refl _ _⟩
    · obtain ⟨b, o, rfl, hb, hc⟩ := h.at_ e
      have hn1 : n = 1 := by omega
      subst hn1
      have hlen1 : (Lib.join ((wsOf ss).take 1) (⟨#[]⟩ : ByteArray).data.toList).length ≤ 140737488355328 := by
        have h1 := PL.join_len ((wsOf ss).take 1) (⟨#[]⟩ : ByteArray).data.toList
        have h2 := PL.sz_take_le (wsOf ss) 1
        have h3 : (⟨#[]⟩ : ByteArray).data.toList.length = 0 := rfl
        rw [h3] at h1
        omega
      have c22 := join_take h (by omega) 1 (by omega) (c := 1) (by omega) ⟨#[]⟩ (by omega) hlen1
      have ht : (wsOf ss).take 1 = wsOf ss := List.take_of_length_le (by omega)
      rw [ht] at c22
      go_enter Try.func19, Try.ntmps19
      go_wp2_with (go_at_call 22; refine c22.mono ?_; rintro e w' ⟨rfl, hb⟩)
      go_ret
      exact ⟨rfl, by assumption⟩
  · obtain ⟨b, o, rfl, hb, hc⟩ := h.at_ (by omega)
    have hl := h.len
    have hw : PL.wordL (wsOf ss) conj.data.toList = Lib.join ((wsOf ss).take (n - 1)) [44, 32] ++ [32] ++ conj.data.toList ++ [32] ++ (wsOf ss)[n - 1]?.getD [] := by
      unfold PL.wordL; rw [if_neg (by rw [wsOf_len, hl]; omega), wsOf_len, hl]
    have hjl : (Lib.join ((wsOf ss).take (n - 1)) [44, 32]).length ≤ 2097152 := by
      have h1 := PL.join_len ((wsOf ss).take (n - 1)) [44, 32]
      have h2 := PL.sz_take_le (wsOf ss) (n - 1)
      rw [List.length_take, wsOf_len, hl] at h1
      simp only [List.length_cons, List.length_nil] at h1
      omega
    have hlt : n - 1 < ss.length := by omega
    have hx : (wsOf ss)[n - 1]?.getD [] = ss[n - 1].data.toList := by simp [wsOf, hlt]
    have hxs : ss[n - 1].size ≤ 1048576 := by
      have h1 := PL.sz_mem (wsOf ss) (n - 1) (by rw [wsOf_len]; exact hlt)
      rw [wsOf_at ss _ hlt] at h1; omega
    have hcell := hc (n - 1) hlt
    rw [hx] at hw
    obtain ⟨x, hxe⟩ : ∃ x, x = ss[n - 1] := ⟨_, rfl⟩
    rw [← hxe] at hw hxs hcell
    have c22 := fun (W : World) (hW : StrsAt W (some ⟨b, o, none⟩) n ss) => join_take hW (by omega) (n - 1) (by omega) (c := n) (by omega) ⟨#[44, 32]⟩ (by omega) (by
      show (Lib.join ((wsOf ss).take (n - 1)) [44, 32]).length ≤ _
      omega)
    have ej : (⟨#[44, 32]⟩ : ByteArray).data.toList = [44, 32] := rfl
    rw [ej] at c22
    clear ej
    generalize Lib.join ((wsOf ss).take (n - 1)) [44, 32] = J at *
    have hfin : strOf (PL.wordL (wsOf ss) conj.data.toList) = strOf J ++ ⟨#[32]⟩ ++ conj ++ ⟨#[32]⟩ ++ x := by
      rw [hw, ← strOf_app, ← strOf_app, ← strOf_app, ← strOf_app, strOf_self, strOf_self]; rfl
    rw [hfin]
    have z1 : (⟨#[32]⟩ : ByteArray).size = 1 := rfl
    have z2 := strOf_size J
    have a1 := add_run (strOf J) ⟨#[32]⟩ (by omega)
    have a2 := add_run (strOf J ++ ⟨#[32]⟩) conj (by rw [ByteArray.size_append]; omega)
    have a3 := add_run (strOf J ++ ⟨#[32]⟩ ++ conj) ⟨#[32]⟩ (by rw [ByteArray.size_append, ByteArray.size_append]; omega)
    have a4 := add_run (strOf J ++ ⟨#[32]⟩ ++ conj ++ ⟨#[32]⟩) x (by rw [ByteArray.size_append, ByteArray.size_append, ByteArray.size_append]; omega)
    have HS : Hid (StrsAt w (some ⟨b, o, none⟩) n ss) := h
    have C22 : Hid (∀ W : World, StrsAt W (some ⟨b, o, none⟩) n ss → Calls Try.prog 22 #[.slice (some ⟨b, o, none⟩) (n - 1) n, .string ⟨#[44, 32]⟩] W fun e w' => e = .returned (.string (strOf J)) ∧ Below W.heap.size W w') := c22
    clear c22 hc h hw hx hfin hxe hl hlt z1 z2 hjl
    generalize strOf J = j at *
    go_enter Try.func19, Try.ntmps19
    go_wp2_with fail
    go_region_with (go_at_call 22; refine (C22.out _ ?_).mono ?_; (exact strs_below HS.out ((Below.refl _ _).drew)); rintro e w1 ⟨rfl, hb1⟩; have hcell1 := (hb1.cell (p := ⟨b, o + (n - 1), none⟩) hb).trans hcell)
    all_goals go_wp2
    all_goals go_ret
    all_goals exact ⟨rfl, (Below.refl _ _).drew.trans hb1⟩
end Go.Proofs.Qxb6600415a
