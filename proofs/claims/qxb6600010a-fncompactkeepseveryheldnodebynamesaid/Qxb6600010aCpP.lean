/-
  NUMBERING ANEW, PLAINLY.
-/
import Derived.Test.Qxb6600010aRel
namespace Go.Proofs.Qxb6600010a
open Go.RowKit
set_option linter.unusedVariables false
set_option linter.unusedSimpArgs false

namespace PL
/-- The new number of k. -/
def rnF (h : Nat → Bool) (k : Nat) : Nat := if h k = true then ncOf h k else 0
/-- The j-th held node. -/
def hidx (h : Nat → Bool) (n j : Nat) : Nat := ((List.range n).filter h)[j]?.getD 0
theorem ncOf_mono (h : Nat → Bool) {a b : Nat} (hab : a ≤ b) : ncOf h a ≤ ncOf h b := by
  induction b with
  | zero => have : a = 0 := by omega
            subst this; exact Nat.le_refl _
  | succ b ih =>
    by_cases e : a = b + 1
    · subst e; exact Nat.le_refl _
    · have := ih (by omega)
      rw [ncOf_succ]; omega
theorem ncOf_lt (h : Nat → Bool) {a b : Nat} (hab : a < b) (ha : h a = true) : ncOf h a < ncOf h b := by
  have h1 := ncOf_mono h (show a + 1 ≤ b from hab)
  rw [ncOf_succ, if_pos ha] at h1
  omega
theorem range_pre (n k : Nat) (hk : k ≤ n) : ∃ l, List.range n = List.range k ++ l := ⟨(List.range n).drop k, by
  have := List.take_append_drop k (List.range n)
  rw [List.take_range, Nat.min_eq_left hk] at this
  exact this.symm⟩
theorem hidx_pre (h : Nat → Bool) {m n j : Nat} (hmn : m ≤ n) (hj : j < ncOf h m) : hidx h n j = hidx h m j := by
  obtain ⟨l, hl⟩ := range_pre n m hmn
  unfold hidx
  rw [hl, List.filter_append, List.getElem?_append_left hj]
theorem hidx_at (h : Nat → Bool) {n k : Nat} (hk : k < n) (hh : h k = true) : hidx h n (ncOf h k) = k := by
  have h1 : ncOf h k < ncOf h (k + 1) := ncOf_lt h (by omega) hh
  rw [hidx_pre h (show k + 1 ≤ n from hk) h1]
  unfold hidx ncOf
  rw [List.range_succ, List.filter_append, List.getElem?_append_right (Nat.le_refl _), Nat.sub_self]
  simp [hh]
theorem hidx_ok (h : Nat → Bool) {n j : Nat} (hj : j < ncOf h n) : hidx h n j < n ∧ h (hidx h n j) = true ∧ ncOf h (hidx h n j) = j := by
  induction n with
  | zero => simp [ncOf] at hj
  | succ n ih =>
    by_cases h1 : j < ncOf h n
    · rw [hidx_pre h (Nat.le_succ n) h1]
      obtain ⟨a, b, c⟩ := ih h1
      exact ⟨by omega, b, c⟩
    · have hn : h n = true := by
        cases hx : h n
        · rw [ncOf_succ, hx] at hj; simp at hj; omega
        · rfl
      rw [ncOf_succ, if_pos hn] at hj
      have e : j = ncOf h n := by omega
      subst e
      rw [hidx_at h (Nat.lt_succ_self n) hn]
      exact ⟨by omega, hn, rfl⟩
/-- The numbers by name, k nodes in. -/
def numC (h : Nat → Bool) (nm : Nat → ByteArray) : Nat → ByteArray → Option Int
  | 0 => fun _ => none
  | k + 1 => if h k = true then fun s => if s = nm k then some (ncOf h k : Int) else numC h nm k s else numC h nm k
theorem numC_some (h : Nat → Bool) (nm : Nat → ByteArray) (k : Nat) (s : ByteArray) (x : Int) (hx : numC h nm k s = some x) : ∃ i, i < k ∧ h i = true ∧ s = nm i ∧ x = (ncOf h i : Int) := by
  induction k with
  | zero => simp [numC] at hx
  | succ k ih =>
    unfold numC at hx
    by_cases hk : h k = true
    · rw [if_pos hk] at hx
      by_cases e : s = nm k
      · simp only [if_pos e, Option.some.injEq] at hx
        exact ⟨k, by omega, hk, e, hx.symm⟩
      · simp only [if_neg e] at hx
        obtain ⟨i, h1, h2⟩ := ih hx
        exact ⟨i, by omega, h2⟩
    · rw [if_neg hk] at hx
      obtain ⟨i, h1, h2⟩ := ih hx
      exact ⟨i, by omega, h2⟩
theorem numC_at (h : Nat → Bool) {nm : Nat → ByteArray} {n : Nat} (ha : ∀ i j, i < n → j < n → nm i = nm j → i = j) (k i : Nat) (hi : i < n) (hk : k ≤ n) : numC h nm k (nm i) = if i < k ∧ h i = true then some (ncOf h i : Int) else none := by
  cases hx : numC h nm k (nm i) with
  | some x =>
    obtain ⟨j, h1, h2, h3, h4⟩ := numC_some h nm k _ x hx
    have e : i = j := ha i j hi (by omega) h3
    subst e
    rw [if_pos ⟨h1, h2⟩, h4]
  | none =>
    rw [if_neg]
    rintro ⟨h1, h2⟩
    have : ∀ k, i < k → k ≤ n → numC h nm k (nm i) ≠ none := by
      intro k
      induction k with
      | zero => intro h; omega
      | succ k ih =>
        intro hik hkn
        unfold numC
        by_cases hk' : h k = true
        · rw [if_pos hk']
          by_cases e : nm i = nm k
          · simp [e]
          · simp only [if_neg e]
            have : i ≠ k := fun e' => e (by rw [e'])
            exact ih (by omega) (by omega)
        · rw [if_neg hk']
          have : i ≠ k := fun e' => hk' (e' ▸ h2)
          exact ih (by omega) (by omega)
    exact this k h1 hk hx
end PL
end Go.Proofs.Qxb6600010a
