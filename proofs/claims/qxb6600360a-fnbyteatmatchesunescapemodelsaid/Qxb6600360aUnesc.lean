/-
  THE PLAIN SIDE, the eager model: a backslash that has a byte after it is dropped, that byte is kept.
-/
import Derived.Test.Qxb6600360aPlain
namespace Go.Proofs.Qxb6600360a.PL

def unesc : List UInt8 → List UInt8
  | [] => []
  | [c] => [c]
  | c :: d :: r => if c = 92 then d :: unesc r else c :: unesc (d :: r)

theorem unesc_step (t : List UInt8) (i : Nat) (h : i < t.length) : unesc (t.drop i) = t[nx t i]?.getD 0 :: unesc (t.drop (nx t i + 1)) := by
  unfold nx
  rw [List.drop_eq_getElem_cons h]
  by_cases h1 : i + 1 < t.length
  · rw [List.drop_eq_getElem_cons h1]
    by_cases hc : t[i] = 92
    · simp [unesc, hc, h, h1]
    · simp [unesc, hc, h, h1]
  · have e : t.drop (i + 1) = [] := List.drop_eq_nil_of_le (by omega)
    simp [e, unesc, h, h1]

theorem unesc_bytes (t : List UInt8) (f : Nat) : ∀ n, Can t f n → unesc (t.drop f) = bytes t f n ++ unesc (t.drop (ps t f n))
  | 0, _ => by simp [bytes, ps]
  | n + 1, h => by
    have hn : Can t f n := fun j hj => h j (by omega)
    rw [unesc_bytes t f n hn, bytes_succ, unesc_step t (ps t f n) (h n (by omega))]
    simp [bt, ps]

theorem unesc_len (t : List UInt8) (f n : Nat) (h : Can t f n) (he : ps t f n = t.length) : unesc (t.drop f) = bytes t f n := by
  rw [unesc_bytes t f n h, he]; simp [unesc]

/-- What is still to come at place j. -/
def rest (t : List UInt8) (j : Nat) (pd : Bool) : List UInt8 := if pd then t[j]?.getD 0 :: unesc (t.drop (j + 1)) else unesc (t.drop j)

theorem rest_pend (t : List UInt8) (j : Nat) : rest t j true = t[j]?.getD 0 :: rest t (j + 1) false := by simp [rest]
theorem rest_esc (t : List UInt8) (j : Nat) (h : t[j]?.getD 0 = 92) (h1 : j + 1 < t.length) : rest t j false = rest t (j + 1) true := by
  simp only [rest, if_true, Bool.false_eq_true, if_false]
  rw [unesc_step t j (by omega), nx, if_pos ⟨h, h1⟩]
theorem rest_keep (t : List UInt8) (j : Nat) (hj : j < t.length) (h : ¬ (t[j]?.getD 0 = 92 ∧ j + 1 < t.length)) : rest t j false = t[j]?.getD 0 :: rest t (j + 1) false := by
  simp only [rest, Bool.false_eq_true, if_false]
  rw [unesc_step t j hj, nx, if_neg h]
theorem rest_end (t : List UInt8) : rest t t.length false = [] := by simp [rest, unesc]

theorem unesc_le (t : List UInt8) (n : Nat) : ∀ i, t.length - i = n → (unesc (t.drop i)).length ≤ t.length - i := by
  induction n using Nat.strongRecOn with
  | _ n ih =>
    intro i hn
    by_cases h : i < t.length
    · rw [unesc_step t i h]
      have h1 := le_nx t i
      have h2 := nx_lt t i h
      have := ih (t.length - (nx t i + 1)) (by omega) (nx t i + 1) rfl
      simp; omega
    · rw [List.drop_eq_nil_of_le (by omega)]; simp [unesc]

end Go.Proofs.Qxb6600360a.PL
