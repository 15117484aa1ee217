/-
  THE PLAIN SIDE of seat b6600415a: a list of words as a message writes it, by Join and word by word.
-/
import Derived.Lib.Join
namespace Go.Proofs.Qxb6600415a.PL

abbrev Bs := List UInt8

/-- The bytes of all the words. -/
def sz (ws : List Bs) : Nat := (ws.map List.length).sum

theorem sz_nil : sz [] = 0 := rfl
theorem sz_snoc (ws : List Bs) (x : Bs) : sz (ws ++ [x]) = sz ws + x.length := by simp [sz]
theorem sz_append (a b : List Bs) : sz (a ++ b) = sz a + sz b := by simp [sz]
theorem sz_take_succ (ws : List Bs) (j : Nat) (h : j < ws.length) : sz (ws.take (j + 1)) = sz (ws.take j) + ws[j].length := by
  rw [List.take_succ_eq_append_getElem h, sz_snoc]
theorem sz_take_le (ws : List Bs) (j : Nat) : sz (ws.take j) ≤ sz ws := by
  have h := sz_append (ws.take j) (ws.drop j)
  rw [List.take_append_drop] at h; omega
theorem sz_mem (ws : List Bs) (j : Nat) (h : j < ws.length) : ws[j].length ≤ sz ws := by
  have := sz_take_succ ws j h
  have := sz_take_le ws (j + 1)
  omega

/-- As wordList writes it. -/
def wordL (ws : List Bs) (conj : Bs) : Bs :=
  if ws.length < 2 then Go.Lib.join ws [] else Go.Lib.join (ws.take (ws.length - 1)) [44, 32] ++ [32] ++ conj ++ [32] ++ ws[ws.length - 1]?.getD []

/-- What stands ahead of word i of n. -/
def sep (conj : Bs) (n i : Nat) : Bs := if i = 0 then [] else if i = n - 1 then [32] ++ conj ++ [32] else [44, 32]

/-- As the model writes it, the first i words. -/
def modelTo (ws : List Bs) (conj : Bs) : Nat → Bs
  | 0 => []
  | i + 1 => modelTo ws conj i ++ sep conj ws.length i ++ ws[i]?.getD []

theorem join_snoc (ws : List Bs) (x s : Bs) (h : ws ≠ []) : Go.Lib.join (ws ++ [x]) s = Go.Lib.join ws s ++ s ++ x := by
  cases ws with
  | nil => exact absurd rfl h
  | cons a r => rw [List.cons_append, Go.Lib.join_cons, Go.Lib.join_cons]; simp [Go.Lib.joinTail]

theorem modelTo_join (ws : List Bs) (conj : Bs) : ∀ i, i < ws.length → modelTo ws conj i = Go.Lib.join (ws.take i) [44, 32]
  | 0, _ => by simp [modelTo, Go.Lib.join_nil]
  | i + 1, h => by
    rw [modelTo, modelTo_join ws conj i (by omega), List.take_succ_eq_append_getElem (by omega)]
    by_cases hi : i = 0
    · subst hi; simp [sep, Go.Lib.join_one, Go.Lib.join_nil, show 0 < ws.length by omega]
    · rw [join_snoc _ _ _ (by intro e; have := congrArg List.length e; rw [List.length_take] at this; simp only [List.length_nil] at this; omega)]
      simp [sep, hi, show i < ws.length by omega, show ¬ i = ws.length - 1 by omega]

/-- THE LAW. -/
theorem model_eq (ws : List Bs) (conj : Bs) : modelTo ws conj ws.length = wordL ws conj := by
  unfold wordL
  by_cases h2 : ws.length < 2
  · rw [if_pos h2]
    cases ws with
    | nil => simp [modelTo, Go.Lib.join_nil]
    | cons a r =>
      cases r with
      | nil => simp [modelTo, sep, Go.Lib.join_one]
      | cons b r => simp at h2; omega
  · rw [if_neg h2]
    have hl : modelTo ws conj ws.length = modelTo ws conj (ws.length - 1 + 1) := by congr 1; omega
    rw [hl, modelTo, modelTo_join ws conj _ (by omega)]
    simp [sep, show ¬ ws.length - 1 = 0 by omega]

/-! ### Lengths -/
theorem sep_len (conj : Bs) (n i : Nat) : (sep conj n i).length ≤ conj.length + 2 := by
  unfold sep; split
  · simp
  · split <;> simp

theorem modelTo_len (ws : List Bs) (conj : Bs) : ∀ i, i ≤ ws.length → (modelTo ws conj i).length ≤ i * (conj.length + 2) + sz (ws.take i)
  | 0, _ => by simp [modelTo]
  | i + 1, h => by
    have h1 := modelTo_len ws conj i (by omega)
    have h2 := sep_len conj ws.length i
    rw [sz_take_succ ws i (by omega)]
    simp only [modelTo, List.length_append, List.getElem?_eq_getElem (show i < ws.length by omega), Option.getD_some]
    rw [Nat.succ_mul]; omega

theorem tail_len (s : Bs) : ∀ r : List Bs, (Go.Lib.joinTail s r).length = sz r + r.length * s.length
  | [] => by simp [Go.Lib.joinTail, sz]
  | x :: r => by
    have := tail_len s r
    simp only [Go.Lib.joinTail, sz, List.map_cons, List.flatten_cons, List.length_append, List.sum_cons, List.length_cons] at this ⊢
    rw [this, Nat.succ_mul]; omega

theorem join_len (ws : List Bs) (s : Bs) : (Go.Lib.join ws s).length ≤ sz ws + ws.length * s.length := by
  cases ws with
  | nil => simp [Go.Lib.join_nil]
  | cons a r =>
    rw [Go.Lib.join_cons, List.length_append, tail_len]
    simp only [sz, List.map_cons, List.sum_cons, List.length_cons, Nat.succ_mul]; omega

end Go.Proofs.Qxb6600415a.PL
