/-
  THE PLAIN SIDE, escaping: what the law writes is read back byte for byte.
-/
import Derived.Test.Qxb6600360aPlain
namespace Go.Proofs.Qxb6600360a.PL

/-- One byte as it is written: a backslash ahead of it where e says so. -/
def one (e : Bool) (c : UInt8) : List UInt8 := if e then [92, c] else [c]

/-- The first n bytes of a, as they are written. -/
def encTo (a : List UInt8) (es : Nat → Bool) : Nat → List UInt8
  | 0 => []
  | n + 1 => encTo a es n ++ one (es n) (a[n]?.getD 0)

/-- Every backslash is escaped. -/
def Good (a : List UInt8) (es : Nat → Bool) : Prop := ∀ j, j < a.length → a[j]?.getD 0 = 92 → es j = true

theorem one_len (e : Bool) (c : UInt8) : 1 ≤ (one e c).length ∧ (one e c).length ≤ 2 := by
  cases e <;> simp [one]

theorem encTo_len (a : List UInt8) (es : Nat → Bool) : ∀ n, (encTo a es n).length ≤ 2 * n
  | 0 => by simp [encTo]
  | n + 1 => by
    have := encTo_len a es n
    have := one_len (es n) (a[n]?.getD 0)
    simp [encTo]; omega

/-- What stands from place n on. -/
theorem encTo_split (a : List UInt8) (es : Nat → Bool) (n N : Nat) (h : n < N) : ∃ r, encTo a es N = encTo a es n ++ (one (es n) (a[n]?.getD 0) ++ r) := by
  induction N with
  | zero => omega
  | succ N ih =>
    by_cases e : n = N
    · subst e; exact ⟨[], by simp [encTo]⟩
    · obtain ⟨r, hr⟩ := ih (by omega)
      exact ⟨r ++ one (es N) (a[N]?.getD 0), by simp [encTo, hr]⟩

theorem read_one (p : List UInt8) (a : List UInt8) (es : Nat → Bool) (hg : Good a es) (n : Nat) (h : n < a.length) :
    p.length + (encTo a es n).length < (p ++ encTo a es a.length).length ∧
    nx (p ++ encTo a es a.length) (p.length + (encTo a es n).length) + 1 = p.length + (encTo a es (n + 1)).length ∧
    (p ++ encTo a es a.length)[nx (p ++ encTo a es a.length) (p.length + (encTo a es n).length)]?.getD 0 = a[n]?.getD 0 := by
  obtain ⟨r, hr⟩ := encTo_split a es n a.length h
  rw [hr]
  have e1 : p ++ (encTo a es n ++ (one (es n) (a[n]?.getD 0) ++ r)) = (p ++ encTo a es n) ++ (one (es n) (a[n]?.getD 0) ++ r) := by simp
  rw [e1]
  have e2 : p.length + (encTo a es n).length = (p ++ encTo a es n).length := by simp
  rw [e2]
  have hs : (encTo a es (n + 1)).length = (encTo a es n).length + (one (es n) (a[n]?.getD 0)).length := by simp [encTo]
  rw [hs]
  generalize hq : p ++ encTo a es n = q at *
  cases hes : es n with
  | true =>
    have hn : nx (q ++ (one true (a[n]?.getD 0) ++ r)) q.length = q.length + 1 := by
      unfold nx
      rw [if_pos]
      constructor
      · simp [one]
      · simp [one]
    rw [hn]
    refine ⟨by simp [one], by simp [one]; omega, ?_⟩
    rw [List.getElem?_append_right (by omega)]
    simp [one]
  | false =>
    have hne : a[n]?.getD 0 ≠ 92 := fun e => by have := hg n h e; rw [hes] at this; cases this
    have hn : nx (q ++ (one false (a[n]?.getD 0) ++ r)) q.length = q.length := by
      unfold nx
      rw [if_neg]
      intro hc
      apply hne
      have := hc.1
      simpa [one] using this
    rw [hn]
    refine ⟨by simp [one], by simp [one]; omega, ?_⟩
    rw [List.getElem?_append_right (by omega)]
    simp [one]

/-- THE LAW: the reading of what was written. -/
theorem read_back (p : List UInt8) (a : List UInt8) (es : Nat → Bool) (hg : Good a es) : ∀ n, n ≤ a.length →
    Can (p ++ encTo a es a.length) p.length n ∧ ps (p ++ encTo a es a.length) p.length n = p.length + (encTo a es n).length
  | 0, _ => ⟨fun j hj => by omega, by simp [ps, encTo]⟩
  | n + 1, h => by
    obtain ⟨h1, h2⟩ := read_back p a es hg n (by omega)
    obtain ⟨r1, r2, _⟩ := read_one p a es hg n (by omega)
    refine ⟨can_succ _ _ _ h1 (by rw [h2]; exact r1), ?_⟩
    show nx _ (ps _ _ n) + 1 = _
    rw [h2, r2]

theorem read_byte (p : List UInt8) (a : List UInt8) (es : Nat → Bool) (hg : Good a es) (n : Nat) (h : n < a.length) : bt (p ++ encTo a es a.length) p.length n = a[n]?.getD 0 := by
  obtain ⟨_, h2⟩ := read_back p a es hg n (by omega)
  unfold bt
  rw [h2]
  exact (read_one p a es hg n h).2.2

theorem read_end (p : List UInt8) (a : List UInt8) (es : Nat → Bool) (hg : Good a es) : ps (p ++ encTo a es a.length) p.length a.length = (p ++ encTo a es a.length).length := by
  rw [(read_back p a es hg a.length (Nat.le_refl _)).2]; simp

end Go.Proofs.Qxb6600360a.PL
