/-
  THE PLAIN SIDE of the mesh: the links counted, the targets in order of their first naming, the ranks by name.
-/
import Derived.Test.Qxb6600010aOrder
namespace Go.Proofs.Qxb6600010a.PL

/-! ### Links -/
/-- What has been counted: the targets of each node; how often a pair was named. -/
structure MS where
  T : List (List Nat)
  ct : Nat × Nat → Nat

def tg (T : List (List Nat)) (a : Nat) : List Nat := T[a]?.getD []

def step (s : MS) (p : Nat × Nat) : MS :=
  if p.1 = p.2 then s else ⟨if s.ct p = 0 then s.T.set p.1 (tg s.T p.1 ++ [p.2]) else s.T, fun q => if q = p then s.ct p + 1 else s.ct q⟩
def ms0 (n : Nat) : MS := ⟨List.replicate n [], fun _ => 0⟩
def msOf (n : Nat) (ps : List (Nat × Nat)) : MS := ps.foldl step (ms0 n)

theorem msOf_snoc (n : Nat) (ps : List (Nat × Nat)) (p : Nat × Nat) : msOf n (ps ++ [p]) = step (msOf n ps) p := by simp [msOf]

/-- What holds of it. -/
structure MInv (n c : Nat) (s : MS) : Prop where
  len : s.T.length = n
  mem : ∀ a b, b ∈ tg s.T a ↔ 0 < s.ct (a, b)
  nodup : ∀ a, (tg s.T a).Nodup
  rng : ∀ a b, 0 < s.ct (a, b) → a < n ∧ b < n ∧ a ≠ b
  small : ∀ p, s.ct p ≤ c
  short : ∀ a, (tg s.T a).length ≤ c

theorem tg_set (T : List (List Nat)) (a b : Nat) (x : List Nat) (h : a < T.length) : tg (T.set a x) b = if b = a then x else tg T b := by
  unfold tg
  by_cases e : b = a
  · subst e; simp [h]
  · rw [if_neg e, List.getElem?_set_ne (fun e' => e e'.symm)]

theorem minv0 (n : Nat) : MInv n 0 (ms0 n) := by
  have h : ∀ a, tg (ms0 n).T a = [] := by
    intro a
    unfold tg ms0
    simp only [List.getElem?_replicate]
    split <;> rfl
  exact ⟨by simp [ms0], fun a b => by rw [h]; simp [ms0], fun a => by rw [h]; exact List.nodup_nil, fun a b hb => by simp [ms0] at hb, fun p => by simp [ms0], fun a => by rw [h]; simp⟩

theorem minv_step (n c : Nat) (s : MS) (h : MInv n c s) (p : Nat × Nat) (h1 : p.1 < n) (h2 : p.2 < n) : MInv n (c + 1) (step s p) := by
  unfold step
  by_cases e : p.1 = p.2
  · rw [if_pos e]
    exact ⟨h.len, h.mem, h.nodup, h.rng, fun q => by have := h.small q; omega, fun a => by have := h.short a; omega⟩
  · rw [if_neg e]
    have hlt : p.1 < s.T.length := by rw [h.len]; exact h1
    have htg : ∀ b, tg (if s.ct p = 0 then s.T.set p.1 (tg s.T p.1 ++ [p.2]) else s.T) b = if b = p.1 ∧ s.ct p = 0 then tg s.T p.1 ++ [p.2] else tg s.T b := by
      intro b
      by_cases h0 : s.ct p = 0
      · rw [if_pos h0, tg_set s.T p.1 b _ hlt]
        by_cases eb : b = p.1 <;> simp [eb, h0]
      · simp [h0]
    refine ⟨?_, fun a b => ?_, fun a => ?_, fun a b hb => ?_, fun q => ?_, fun a => ?_⟩
    · dsimp only; split <;> simp [h.len]
    · dsimp only
      rw [htg a]
      by_cases ha : a = p.1 ∧ s.ct p = 0
      · rw [if_pos ha]
        obtain ⟨rfl, h0⟩ := ha
        by_cases hb : b = p.2
        · subst hb; simp
        · have hne : (p.1, b) ≠ p := fun e' => hb (by rw [← e'])
          rw [if_neg hne, ← h.mem p.1 b]; simp [hb]
      · rw [if_neg ha]
        by_cases hq : (a, b) = p
        · rw [if_pos hq]
          have h3 : s.ct p ≠ 0 := fun h0 => ha ⟨by rw [← hq], h0⟩
          rw [h.mem a b, hq]; constructor <;> intro <;> omega
        · rw [if_neg hq]; exact h.mem a b
    · dsimp only
      rw [htg a]
      by_cases ha : a = p.1 ∧ s.ct p = 0
      · rw [if_pos ha, List.nodup_append]
        refine ⟨h.nodup _, by simp, ?_⟩
        intro x hx y hy
        simp only [List.mem_singleton] at hy
        subst hy
        intro e'
        subst e'
        have := (h.mem p.1 p.2).1 hx
        have h0 : s.ct (p.1, p.2) = 0 := ha.2
        omega
      · rw [if_neg ha]; exact h.nodup a
    · dsimp only at hb
      by_cases hq : (a, b) = p
      · rw [← hq] at h1 h2 e; exact ⟨h1, h2, e⟩
      · rw [if_neg hq] at hb; exact h.rng a b hb
    · dsimp only
      have := h.small q
      have := h.small p
      split <;> omega
    · dsimp only
      rw [htg a]
      have := h.short a
      have := h.short p.1
      split <;> simp <;> omega

theorem minv_of (n : Nat) (ps : List (Nat × Nat)) (h : ∀ p ∈ ps, p.1 < n ∧ p.2 < n) : MInv n ps.length (msOf n ps) := by
  have key : ∀ (qs : List (Nat × Nat)) (c : Nat) (s : MS), MInv n c s → (∀ p ∈ qs, p.1 < n ∧ p.2 < n) → MInv n (c + qs.length) (qs.foldl step s) := by
    intro qs
    induction qs with
    | nil => intro c s hs _; exact hs
    | cons p qs ih =>
      intro c s hs hp
      have h1 := minv_step n c s hs p (hp p (by simp)).1 (hp p (by simp)).2
      have h2 := ih (c + 1) (step s p) h1 (fun q hq => hp q (by simp [hq]))
      simp only [List.foldl_cons, List.length_cons]
      rw [show c + (qs.length + 1) = c + 1 + qs.length by omega]
      exact h2
  have := key ps 0 (ms0 n) (minv0 n) h
  rwa [Nat.zero_add] at this

/-! ### Ranks -/
/-- The rank of each node: where it stands in the order. -/
def RankOf (n : Nat) (ord rank : List Nat) : Prop := rank.length = n ∧ ∀ (i : Nat) (h : i < ord.length), rank[ord[i]]? = some i

/-- Names are apart, ranks follow the names. -/
structure Ranked (names : List ByteArray) (rank : List Nat) : Prop where
  len : rank.length = names.length
  lt : ∀ (x : Nat) (h : x < rank.length), rank[x] < names.length
  ord : ∀ (x y : Nat) (hx : x < names.length) (hy : y < names.length), (rank[x]'(by rw [len]; exact hx) < rank[y]'(by rw [len]; exact hy)) ↔ nlt names[x] names[y] = true
  inj : ∀ (x y : Nat) (hx : x < names.length) (hy : y < names.length), names[x] = names[y] → x = y

theorem ranked_of (names : List ByteArray) (ord rank : List Nat) (hp : ord.Perm (List.range names.length)) (hs : ord.Pairwise (fun a b => nameLe names a b = true))
    (hd : ∀ i, 1 ≤ i → i < names.length → ∀ x y, ord[i - 1]? = some x → ord[i]? = some y → names[x]? ≠ names[y]?) (hr : RankOf names.length ord rank) : Ranked names rank := by
  have hlen : ord.length = names.length := by rw [hp.length_eq]; simp
  have hmem : ∀ x, x < names.length → ∃ i, ∃ h : i < ord.length, ord[i] = x := by
    intro x hx
    have : x ∈ ord := hp.mem_iff.2 (by simpa using hx)
    obtain ⟨i, h, e⟩ := List.getElem_of_mem this
    exact ⟨i, h, e⟩
  have hlt : ∀ i (h : i < ord.length), ord[i] < names.length := by
    intro i h
    have := hp.mem_iff.1 (List.getElem_mem h)
    simpa using this
  -- strictly rising, one by one
  have hstep : ∀ i (h : i + 1 < ord.length), nlt (names[ord[i]]'(hlt i (by omega))) (names[ord[i + 1]]'(hlt (i + 1) h)) = true := by
    intro i h
    have h1 := List.pairwise_iff_getElem.1 hs i (i + 1) (by omega) h (by omega)
    rw [nameLe_at (List.getElem?_eq_getElem (hlt i (by omega))) (List.getElem?_eq_getElem (hlt (i + 1) h))] at h1
    have h2 := hd (i + 1) (by omega) (by omega) (ord[i]'(by omega)) ord[i + 1] (by simp) (by simp)
    rw [List.getElem?_eq_getElem (hlt i (by omega)), List.getElem?_eq_getElem (hlt (i + 1) h)] at h2
    cases h3 : nlt (names[ord[i]]'(hlt i (by omega))) (names[ord[i + 1]]'(hlt (i + 1) h)) with
    | true => rfl
    | false =>
      simp only [Bool.not_eq_true'] at h1
      exact absurd (congrArg some (nlt_tri h3 h1)) h2
  have hrise : ∀ d i (h : i + d + 1 < ord.length), nlt (names[ord[i]]'(hlt i (by omega))) (names[ord[i + d + 1]]'(hlt _ h)) = true := by
    intro d
    induction d with
    | zero => intro i h; exact hstep i h
    | succ d ih =>
      intro i h
      exact nlt_trans (ih i (by omega)) (hstep (i + d + 1) h)
  have hri : ∀ i (h : i < ord.length), ∃ h' : ord[i] < rank.length, rank[ord[i]] = i := by
    intro i h
    have := hr.2 i h
    obtain ⟨h', e⟩ := List.getElem?_eq_some_iff.1 this
    exact ⟨h', e⟩
  have hord : ∀ (x y : Nat) (hx : x < names.length) (hy : y < names.length), (rank[x]'(by rw [hr.1]; exact hx) < rank[y]'(by rw [hr.1]; exact hy)) ↔ nlt names[x] names[y] = true := by
    intro x y hx hy
    obtain ⟨i, hi, rfl⟩ := hmem x hx
    obtain ⟨j, hj, rfl⟩ := hmem y hy
    obtain ⟨_, ei⟩ := hri i hi
    obtain ⟨_, ej⟩ := hri j hj
    rw [ei, ej]
    constructor
    · intro hij
      have := hrise (j - i - 1) i (by omega)
      have e : i + (j - i - 1) + 1 = j := by omega
      simp only [e] at this
      exact this
    · intro hl
      rcases Nat.lt_trichotomy i j with h | h | h
      · exact h
      · subst h; rw [nlt_irrefl] at hl; cases hl
      · have := hrise (i - j - 1) j (by omega)
        have e : j + (i - j - 1) + 1 = i := by omega
        simp only [e] at this
        rw [nlt_asymm this] at hl; cases hl
  refine ⟨hr.1, fun x hx => ?_, hord, fun x y hx hy e => ?_⟩
  · obtain ⟨i, hi, rfl⟩ := hmem x (by rw [hr.1] at hx; exact hx)
    obtain ⟨_, ei⟩ := hri i hi
    rw [ei]; omega
  · have h1 := hord x y hx hy
    have h2 := hord y x hy hx
    rw [e, nlt_irrefl] at h1
    rw [← e, nlt_irrefl] at h2
    obtain ⟨i, hi, rfl⟩ := hmem x hx
    obtain ⟨j, hj, rfl⟩ := hmem y hy
    obtain ⟨_, ei⟩ := hri i hi
    obtain ⟨_, ej⟩ := hri j hj
    rw [ei, ej] at h1 h2
    simp only [Bool.false_eq_true, iff_false] at h1 h2
    have : i = j := by omega
    subst this; rfl

end Go.Proofs.Qxb6600010a.PL
