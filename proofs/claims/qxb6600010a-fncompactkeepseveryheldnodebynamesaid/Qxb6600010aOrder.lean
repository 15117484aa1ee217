/-
  THE PLAIN SIDE: names in order, byte by byte.
-/
import GoSem.Op.String
import Derived.Lib.Strings
namespace Go.Proofs.Qxb6600010a.PL

theorem bl_irrefl : ∀ a : List UInt8, Op.bytesLess a a = false
  | [] => rfl
  | x :: a => by
    have := bl_irrefl a
    simp [Op.bytesLess, this]

theorem bl_trans : ∀ a b c : List UInt8, Op.bytesLess a b = true → Op.bytesLess b c = true → Op.bytesLess a c = true
  | _, [], [], _, h => by simp [Op.bytesLess] at h
  | _, _ :: _, [], _, h => by simp [Op.bytesLess] at h
  | [], _, _ :: _, _, _ => by simp [Op.bytesLess]
  | _ :: _, [], _ :: _, h, _ => by simp [Op.bytesLess] at h
  | x :: a, y :: b, z :: c, h1, h2 => by
    have ih := bl_trans a b c
    simp only [Op.bytesLess, Bool.or_eq_true, Bool.and_eq_true, decide_eq_true_eq, beq_iff_eq] at h1 h2 ⊢
    rcases h1 with h1 | ⟨rfl, h1⟩
    · rcases h2 with h2 | ⟨rfl, h2⟩
      · exact .inl (UInt8.lt_trans h1 h2)
      · exact .inl h1
    · rcases h2 with h2 | ⟨rfl, h2⟩
      · exact .inl h2
      · exact .inr ⟨rfl, ih h1 h2⟩

theorem bl_tri : ∀ a b : List UInt8, Op.bytesLess a b = false → Op.bytesLess b a = false → a = b
  | [], [], _, _ => rfl
  | [], _ :: _, h, _ => by simp [Op.bytesLess] at h
  | _ :: _, [], _, h => by simp [Op.bytesLess] at h
  | x :: a, y :: b, h1, h2 => by
    simp only [Op.bytesLess, Bool.or_eq_false_iff, decide_eq_false_iff_not] at h1 h2
    have e : x = y := UInt8.le_antisymm (UInt8.not_lt.1 h2.1) (UInt8.not_lt.1 h1.1)
    subst e
    have h3 : Op.bytesLess a b = false := by simpa using h1.2
    have h4 : Op.bytesLess b a = false := by simpa using h2.2
    rw [bl_tri a b h3 h4]

/-- Name a sorts before name b. -/
def nlt (a b : ByteArray) : Bool := Op.bytesLess a.toList b.toList

theorem nlt_irrefl (a : ByteArray) : nlt a a = false := bl_irrefl _
theorem nlt_trans {a b c : ByteArray} (h1 : nlt a b = true) (h2 : nlt b c = true) : nlt a c = true := bl_trans _ _ _ h1 h2
theorem toList_inj {a b : ByteArray} (h : a.toList = b.toList) : a = b := by
  have h1 : a.data.toList = b.data.toList := by rw [Lib.toList_data, Lib.toList_data] at h; exact h
  cases a; cases b; simp at h1 ⊢; exact h1
theorem nlt_tri {a b : ByteArray} (h1 : nlt a b = false) (h2 : nlt b a = false) : a = b := toList_inj (bl_tri _ _ h1 h2)
theorem nlt_asymm {a b : ByteArray} (h : nlt a b = true) : nlt b a = false := by
  cases h2 : nlt b a with
  | false => rfl
  | true => have := nlt_trans h h2; rw [nlt_irrefl] at this; cases this
theorem nle_trans {a b c : ByteArray} (h1 : nlt b a = false) (h2 : nlt c b = false) : nlt c a = false := by
  cases h3 : nlt c a with
  | false => rfl
  | true =>
    cases h4 : nlt a b with
    | true => have := nlt_trans h3 h4; rw [h2] at this; cases this
    | false => have := nlt_tri h4 h1; subst this; rw [h2] at h3; cases h3

/-- Node x does not sort behind node y. -/
def nameLe (names : List ByteArray) (x y : Nat) : Bool := !nlt (names[y]?.getD ⟨#[]⟩) (names[x]?.getD ⟨#[]⟩)
theorem nameLe_at {names : List ByteArray} {x y : Nat} {a b : ByteArray} (hx : names[x]? = some a) (hy : names[y]? = some b) : nameLe names x y = !nlt b a := by simp [nameLe, hx, hy]
theorem nameLe_trans (names : List ByteArray) (a b c : Nat) (h1 : nameLe names a b = true) (h2 : nameLe names b c = true) : nameLe names a c = true := by
  simp only [nameLe, Bool.not_eq_true'] at *; exact nle_trans h1 h2
theorem nameLe_total (names : List ByteArray) (a b : Nat) : (nameLe names a b || nameLe names b a) = true := by
  simp only [nameLe]
  cases h : nlt (names[b]?.getD ⟨#[]⟩) (names[a]?.getD ⟨#[]⟩) with
  | false => simp
  | true => simp [nlt_asymm h]

/-- The same by rank. -/
def rankLe (rank : List Nat) (x y : Nat) : Bool := !decide (rank[y]?.getD 0 < rank[x]?.getD 0)
theorem rankLe_at {rank : List Nat} {x y a b : Nat} (hx : rank[x]? = some a) (hy : rank[y]? = some b) : rankLe rank x y = !decide (b < a) := by simp [rankLe, hx, hy]
theorem rankLe_trans (rank : List Nat) (a b c : Nat) (h1 : rankLe rank a b = true) (h2 : rankLe rank b c = true) : rankLe rank a c = true := by
  simp only [rankLe, Bool.not_eq_true', decide_eq_false_iff_not] at *; omega
theorem rankLe_total (rank : List Nat) (a b : Nat) : (rankLe rank a b || rankLe rank b a) = true := by
  simp only [rankLe, Bool.or_eq_true, Bool.not_eq_true', decide_eq_false_iff_not]; omega

end Go.Proofs.Qxb6600010a.PL
