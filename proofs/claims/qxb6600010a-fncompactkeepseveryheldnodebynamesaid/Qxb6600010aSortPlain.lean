/-
  THE PLAIN SIDE of the two merge sorts (bottom up): one pass, what a pass does, and that the passes sort.
-/
namespace Go.Proofs.Qxb6600010a.PL

section
variable {α : Type} (le : α → α → Bool)

/-- The part of L from a up to b. -/
def seg (L : List α) (a b : Nat) : List α := (L.take b).drop a

theorem seg_self (L : List α) (a b : Nat) (h : b ≤ a) : seg L a b = [] := by
  unfold seg; apply List.drop_eq_nil_of_le; simp; omega
theorem seg_head (L : List α) (a b : Nat) (h : a < b) (hb : b ≤ L.length) : seg L a b = L[a] :: seg L (a + 1) b := by
  unfold seg
  rw [List.drop_eq_getElem_cons (by simp; omega)]
  simp
theorem seg_len (L : List α) (a b : Nat) (hb : b ≤ L.length) : (seg L a b).length = b - a := by
  unfold seg; simp; omega
theorem seg_min (L : List α) (a w : Nat) : seg L a (min (a + w) L.length) = (L.drop a).take w := by
  unfold seg
  rw [List.drop_take]
  by_cases h : a + w ≤ L.length
  · rw [Nat.min_eq_left h]; congr 1; omega
  · rw [Nat.min_eq_right (by omega)]
    rw [List.take_of_length_le (by simp), List.take_of_length_le (by simp; omega)]

/-- One pass at width w, with fuel. -/
def passF (w : Nat) : Nat → List α → List α
  | 0, L => L
  | f + 1, L => if L.length = 0 then [] else (L.take w).merge ((L.drop w).take w) le ++ passF w f (L.drop (2 * w))
def pass (w : Nat) (L : List α) : List α := passF le w L.length L

theorem passF_fuel (w : Nat) (hw : 0 < w) : ∀ (f g : Nat) (L : List α), L.length ≤ f → L.length ≤ g → passF le w f L = passF le w g L
  | 0, 0, _, _, _ => rfl
  | 0, g + 1, L, h, _ => by
    have : L = [] := List.eq_nil_of_length_eq_zero (by omega)
    subst this; simp [passF]
  | f + 1, 0, L, _, h => by
    have : L = [] := List.eq_nil_of_length_eq_zero (by omega)
    subst this; simp [passF]
  | f + 1, g + 1, L, h1, h2 => by
    unfold passF
    by_cases h : L.length = 0
    · simp [h]
    · rw [if_neg h, if_neg h, passF_fuel w hw f g (L.drop (2 * w)) (by simp; omega) (by simp; omega)]

theorem pass_nil (w : Nat) : pass le w [] = [] := rfl
theorem pass_step (w : Nat) (hw : 0 < w) (L : List α) (h : 0 < L.length) : pass le w L = (L.take w).merge ((L.drop w).take w) le ++ pass le w (L.drop (2 * w)) := by
  unfold pass
  obtain ⟨m, hm⟩ : ∃ m, L.length = m + 1 := ⟨L.length - 1, by omega⟩
  rw [hm, passF, if_neg (by omega), passF_fuel le w hw m (L.drop (2 * w)).length _ (by simp; omega) (Nat.le_refl _)]

theorem pass_perm (w : Nat) (hw : 0 < w) : ∀ (n : Nat) (L : List α), L.length = n → (pass le w L).Perm L := by
  intro n
  induction n using Nat.strongRecOn with
  | _ n ih =>
    intro L hL
    by_cases h : 0 < L.length
    · rw [pass_step le w hw L h]
      have h1 := ih (L.drop (2 * w)).length (by simp; omega) _ rfl
      have h2 : ((L.take w).merge ((L.drop w).take w) le).Perm (L.take w ++ (L.drop w).take w) := List.merge_perm_append le
      have h3 : L = L.take w ++ ((L.drop w).take w ++ L.drop (2 * w)) := by
        have e : L.drop (2 * w) = (L.drop w).drop w := by rw [List.drop_drop]; congr 1; omega
        rw [e, List.take_append_drop, List.take_append_drop]
      refine (h2.append h1).trans ?_
      rw [List.append_assoc, ← h3]
    · have : L = [] := List.eq_nil_of_length_eq_zero (by omega)
      subst this; rw [pass_nil]

theorem pass_len (w : Nat) (hw : 0 < w) (L : List α) : (pass le w L).length = L.length := (pass_perm le w hw _ L rfl).length_eq

/-- Each run of w is in order. -/
def Chunk (w : Nat) (L : List α) : Prop := ∀ c, ((L.drop (c * w)).take w).Pairwise (fun a b => le a b = true)

theorem chunk_one (L : List α) : Chunk le 1 L := by
  intro c
  match h : (L.drop (c * 1)).take 1 with
  | [] => exact List.Pairwise.nil
  | [a] => exact List.pairwise_singleton _ _
  | a :: b :: r =>
    have := congrArg List.length h
    simp at this; omega

theorem chunk_drop (w : Nat) (L : List α) (h : Chunk le w L) : Chunk le w (L.drop (2 * w)) := by
  intro c
  have := h (c + 2)
  rw [List.drop_drop]
  rw [show 2 * w + c * w = (c + 2) * w by rw [Nat.add_mul]; omega]
  exact this

theorem pass_chunk (trans : ∀ a b c : α, le a b = true → le b c = true → le a c = true) (total : ∀ a b : α, (le a b || le b a) = true) (w : Nat) (hw : 0 < w) :
    ∀ (n : Nat) (L : List α), L.length = n → Chunk le w L → Chunk le (2 * w) (pass le w L) := by
  intro n
  induction n using Nat.strongRecOn with
  | _ n ih =>
    intro L hL hc
    by_cases h : 0 < L.length
    · rw [pass_step le w hw L h]
      have hM : ((L.take w).merge ((L.drop w).take w) le).Pairwise (fun a b => le a b = true) := by
        refine List.pairwise_merge trans total _ _ ?_ ?_
        · have := hc 0; simpa using this
        · have := hc 1; simpa using this
      have hlen : ((L.take w).merge ((L.drop w).take w) le).length = min (2 * w) L.length := by
        rw [List.length_merge]; simp; omega
      have hR := ih (L.drop (2 * w)).length (by simp; omega) _ rfl (chunk_drop le w L hc)
      have hRl := pass_len le w hw (L.drop (2 * w))
      generalize (L.take w).merge ((L.drop w).take w) le = M at *
      generalize pass le w (L.drop (2 * w)) = R at *
      intro c
      by_cases h2 : 2 * w ≤ L.length
      · have hMl : M.length = 2 * w := by omega
        cases c with
        | zero =>
          rw [Nat.zero_mul, List.drop_zero, ← hMl, List.take_left]
          exact hM
        | succ c =>
          have e : (c + 1) * (2 * w) = M.length + c * (2 * w) := by rw [Nat.succ_mul, hMl]; omega
          rw [e, ← List.drop_drop, List.drop_left]
          exact hR c
      · have hR0 : R = [] := List.eq_nil_of_length_eq_zero (by rw [hRl]; simp; omega)
        subst hR0
        rw [List.append_nil]
        refine List.Pairwise.sublist ?_ hM
        exact (List.take_sublist _ _).trans (List.drop_sublist _ _)
    · have : L = [] := List.eq_nil_of_length_eq_zero (by omega)
      subst this
      rw [pass_nil]
      intro c; simp

theorem chunk_all (w : Nat) (L : List α) (h : Chunk le w L) (hw : L.length ≤ w) : L.Pairwise (fun a b => le a b = true) := by
  have := h 0
  simp only [Nat.zero_mul, List.drop_zero] at this
  rwa [List.take_of_length_le hw] at this

/-! ### The loop within: one element is laid -/
theorem take_set_succ (bf : List α) (o : Nat) (x : α) (h : o < bf.length) : (bf.set o x).take (o + 1) = bf.take o ++ [x] := by
  rw [List.take_set, List.take_succ_eq_append_getElem h, List.set_append_right _ _ (by simp; omega)]
  simp [Nat.min_eq_left (Nat.le_of_lt h)]

/-- The left head comes first. -/
theorem merge_left (L : List α) (i mid j hi : Nat) (h1 : i < mid) (hm : mid ≤ L.length) (hh : hi ≤ L.length) (h : hi ≤ j ∨ ∃ h' : j < L.length, le L[i] L[j] = true) :
    (seg L i mid).merge (seg L j hi) le = L[i] :: (seg L (i + 1) mid).merge (seg L j hi) le := by
  rw [seg_head L i mid h1 hm]
  by_cases hj : j < hi
  · rcases h with h | ⟨h', hle⟩
    · omega
    · rw [seg_head L j hi hj hh, List.cons_merge_cons, if_pos hle]
  · rw [seg_self L j hi (by omega), List.merge_right, List.merge_right]

/-- The right head comes first. -/
theorem merge_right' (L : List α) (i mid j hi : Nat) (h1 : j < hi) (hm : mid ≤ L.length) (hh : hi ≤ L.length) (h : mid ≤ i ∨ ∃ h' : i < L.length, le L[i] (L[j]'(by omega)) = false) :
    (seg L i mid).merge (seg L j hi) le = L[j] :: (seg L i mid).merge (seg L (j + 1) hi) le := by
  rw [seg_head L j hi h1 hh]
  by_cases hi' : i < mid
  · rcases h with h | ⟨h', hle⟩
    · omega
    · rw [seg_head L i mid hi' hm, List.cons_merge_cons, if_neg (by rw [hle]; simp)]
  · rw [seg_self L i mid (by omega), List.nil_merge, List.nil_merge]

/-- What the loop over the runs keeps: from lo on the pass is still to be laid. -/
theorem runs_next (w : Nat) (hw : 0 < w) (L bf : List α) (lo : Nat) (hlo : lo < L.length) (hb : bf.length = L.length)
    (h : bf.take (min (lo + 2 * w) L.length) = (pass le w L).take lo ++ (seg L lo (min (lo + w) L.length)).merge (seg L (min (lo + w) L.length) (min (lo + 2 * w) L.length)) le)
    (hp : (pass le w L).take lo ++ pass le w (L.drop lo) = pass le w L) :
    bf.take (lo + 2 * w) = (pass le w L).take (lo + 2 * w) ∧ (pass le w L).take (lo + 2 * w) ++ pass le w (L.drop (lo + 2 * w)) = pass le w L := by
  have hpl := pass_len le w hw L
  have e1 : seg L lo (min (lo + w) L.length) = (L.drop lo).take w := seg_min L lo w
  have e2 : seg L (min (lo + w) L.length) (min (lo + 2 * w) L.length) = ((L.drop lo).drop w).take w := by
    by_cases h1 : lo + w ≤ L.length
    · rw [Nat.min_eq_left h1, show lo + 2 * w = (lo + w) + w by omega, seg_min L (lo + w) w, List.drop_drop]
    · rw [Nat.min_eq_right (by omega : L.length ≤ lo + w), Nat.min_eq_right (by omega : L.length ≤ lo + 2 * w), seg_self _ _ _ (Nat.le_refl _)]
      rw [List.drop_eq_nil_of_le (by simp; omega)]; simp
  have hs := pass_step le w hw (L.drop lo) (by simp; omega)
  have e3 : (L.drop lo).drop (2 * w) = L.drop (lo + 2 * w) := by rw [List.drop_drop]
  rw [e3] at hs
  rw [hs] at hp
  rw [e1, e2] at h
  generalize ((L.drop lo).take w).merge (((L.drop lo).drop w).take w) le = M at *
  generalize hP : pass le w L = P at *
  have hR := pass_len le w hw (L.drop (lo + 2 * w))
  generalize pass le w (L.drop (lo + 2 * w)) = R at *
  have hlen := congrArg List.length hp
  have hlen2 := congrArg List.length h
  simp only [List.length_append, List.length_take, List.length_drop] at hlen hlen2 hR
  have key : bf.take (min (lo + 2 * w) L.length) ++ R = P := by rw [h, List.append_assoc]; exact hp
  have hP2 : P.take (lo + 2 * w) = bf.take (min (lo + 2 * w) L.length) := by
    rw [← key]
    by_cases h1 : lo + 2 * w ≤ L.length
    · rw [Nat.min_eq_left h1, List.take_append_of_le_length (by simp; omega), List.take_take]; congr 1; omega
    · have : R = [] := List.eq_nil_of_length_eq_zero (by omega)
      subst this
      rw [Nat.min_eq_right (by omega), List.append_nil, List.take_of_length_le (by simp; omega)]
  refine ⟨?_, by rw [hP2]; exact key⟩
  rw [hP2]
  by_cases h1 : lo + 2 * w ≤ L.length
  · rw [Nat.min_eq_left h1]
  · rw [Nat.min_eq_right (by omega), List.take_of_length_le (by omega), List.take_of_length_le (by omega)]
end

end Go.Proofs.Qxb6600010a.PL
