/-
  THE PLAIN SIDE of seat b6600360a: how an address is read, byte by byte, with no Go in sight.
-/
namespace Go.Proofs.Qxb6600360a.PL

/-- Where the byte lies that is read next when the reading stands at i. -/
def nx (t : List UInt8) (i : Nat) : Nat := if t[i]?.getD 0 = 92 ∧ i + 1 < t.length then i + 1 else i

/-- Where the reading stands after n bytes. -/
def ps (t : List UInt8) (f : Nat) : Nat → Nat
  | 0 => f
  | n + 1 => nx t (ps t f n) + 1

/-- The n-th byte. -/
def bt (t : List UInt8) (f n : Nat) : UInt8 := t[nx t (ps t f n)]?.getD 0

/-- n bytes can be read. -/
def Can (t : List UInt8) (f n : Nat) : Prop := ∀ j, j < n → ps t f j < t.length

theorem nx_lt (t : List UInt8) (i : Nat) (h : i < t.length) : nx t i < t.length := by
  unfold nx; split <;> omega
theorem le_nx (t : List UInt8) (i : Nat) : i ≤ nx t i := by
  unfold nx; split <;> omega

theorem ps_le (t : List UInt8) (f : Nat) (hf : f ≤ t.length) (n : Nat) (h : Can t f n) : ps t f n ≤ t.length := by
  cases n with
  | zero => exact hf
  | succ n => exact nx_lt t _ (h n (by omega))

theorem ps_ge (t : List UInt8) (f : Nat) : ∀ n, f + n ≤ ps t f n
  | 0 => by simp [ps]
  | n + 1 => by
    have := ps_ge t f n
    have := le_nx t (ps t f n)
    simp only [ps]; omega

theorem can_succ (t : List UInt8) (f n : Nat) (h : Can t f n) (h1 : ps t f n < t.length) : Can t f (n + 1) := by
  intro j hj
  by_cases e : j = n
  · subst e; exact h1
  · exact h j (by omega)

theorem can_le (t : List UInt8) (f n : Nat) (h : Can t f n) : n ≤ t.length := by
  cases n with
  | zero => omega
  | succ n => have := h n (by omega); have := ps_ge t f n; omega

/-- What has been read: the bytes. -/
def bytes (t : List UInt8) (f n : Nat) : List UInt8 := (List.range n).map (bt t f)
/-- What has been read: the ends. -/
def ends (t : List UInt8) (f n : Nat) : List Nat := (List.range n).map fun j => ps t f (j + 1)

theorem bytes_succ (t : List UInt8) (f n : Nat) : bytes t f (n + 1) = bytes t f n ++ [bt t f n] := by simp [bytes, List.range_succ]
theorem ends_succ (t : List UInt8) (f n : Nat) : ends t f (n + 1) = ends t f n ++ [ps t f (n + 1)] := by simp [ends, List.range_succ]
theorem bytes_len (t : List UInt8) (f n : Nat) : (bytes t f n).length = n := by simp [bytes]
theorem ends_len (t : List UInt8) (f n : Nat) : (ends t f n).length = n := by simp [ends]
theorem bytes_at (t : List UInt8) (f n j : Nat) (h : j < n) : (bytes t f n)[j]? = some (bt t f j) := by simp [bytes, h]
theorem ends_at (t : List UInt8) (f n j : Nat) (h : j < n) : (ends t f n)[j]? = some (ps t f (j + 1)) := by simp [ends, h]

end Go.Proofs.Qxb6600360a.PL
