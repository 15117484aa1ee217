/-
  THE PLAIN LAW OF THE BREADTH-FIRST WALK: no Go in sight but the names of PT and upd.
-/
import Derived.Test.Qxb6600010aPs
namespace Go.Proofs.Qxb6600010a
set_option linter.unusedVariables false
set_option linter.unusedSimpArgs false
namespace PL
/-- The walk at f sees t. -/
def vis (f : Nat) (s : List Nat × (Nat → PT)) (t : Nat) : List Nat × (Nat → PT) :=
  if t = 0 ∨ 0 < (s.2 t).hops then s else (s.1 ++ [t], upd s.2 t (if f = 0 then ⟨t, 0, 1⟩ else ⟨(s.2 f).via, f, (s.2 f).hops + 1⟩))
/-- Queue and paths behind i rounds. -/
def bst (J : Nat → List Nat) : Nat → List Nat × (Nat → PT)
  | 0 => ([0], fun _ => pt0)
  | i + 1 => match (bst J i).1[i]? with
    | none => bst J i
    | some f => (J f).foldl (vis f) (bst J i)
theorem bst_zero (J : Nat → List Nat) : bst J 0 = ([0], fun _ => pt0) := rfl
theorem bst_some (J : Nat → List Nat) (i f : Nat) (h : (bst J i).1[i]? = some f) : bst J (i + 1) = (J f).foldl (vis f) (bst J i) := by
  show (match (bst J i).1[i]? with | none => bst J i | some f => (J f).foldl (vis f) (bst J i)) = _
  rw [h]
theorem bst_none (J : Nat → List Nat) (i : Nat) (h : (bst J i).1[i]? = none) : bst J (i + 1) = bst J i := by
  show (match (bst J i).1[i]? with | none => bst J i | some f => (J f).foldl (vis f) (bst J i)) = _
  rw [h]
theorem bst_stay (J : Nat → List Nat) (i : Nat) (h : (bst J i).1.length ≤ i) (k : Nat) : bst J (i + k) = bst J i := by
  induction k with
  | zero => rfl
  | succ k ih =>
    have : (bst J (i + k)).1[i + k]? = none := by rw [ih]; exact List.getElem?_eq_none (by omega)
    rw [← Nat.add_assoc, bst_none J (i + k) this, ih]

/-- The graph. -/
structure Gr (n : Nat) (J : Nat → List Nat) (rk : Nat → Nat) : Prop where
  n0 : 0 < n
  rng : ∀ a b, b ∈ J a → b < n ∧ b ≠ a
  sym : ∀ a b, b ∈ J a → a ∈ J b
  srt : ∀ a, (J a).Pairwise (fun x y => rk x ≤ rk y)

/-- The distance. -/
def dd (P : Nat → PT) (k : Nat) : Nat := if k = 0 then 0 else (P k).hops

structure BI (n : Nat) (J : Nat → List Nat) (rk : Nat → Nat) (i t : Nat) (s : List Nat × (Nat → PT)) : Prop where
  q0 : s.1[0]? = some 0
  nd : s.1.Nodup
  lt : ∀ k, k ∈ s.1 → k < n
  pos : ∀ k, k ≠ 0 → (0 < (s.2 k).hops ↔ k ∈ s.1)
  z : s.2 0 = pt0
  out : ∀ k, k ∉ s.1 → s.2 k = pt0
  mono : ∀ (a b x y : Nat), a ≤ b → s.1[a]? = some x → s.1[b]? = some y → dd s.2 x ≤ dd s.2 y
  top : ∀ (b y f : Nat), s.1[i]? = some f → s.1[b]? = some y → dd s.2 y ≤ dd s.2 f + 1
  far : ∀ (b y : Nat), s.1[b]? = some y → dd s.2 y ≤ b
  vlt : ∀ k, k ∈ s.1 → (s.2 k).via < n ∧ (s.2 k).prev < n
  par : ∀ (b k : Nat), s.1[b]? = some k → k ≠ 0 → ∃ (m f : Nat), m < b ∧ m ≤ i ∧ s.1[m]? = some f ∧ (s.2 k).prev = f ∧ k ∈ J f ∧ (s.2 k).hops = dd s.2 f + 1 ∧ (s.2 k).via = (if f = 0 then k else (s.2 f).via) ∧ ∀ (m' f' : Nat), m' < m → s.1[m']? = some f' → k ∉ J f'
  viam : ∀ (a b x y : Nat), a ≤ b → s.1[a]? = some x → s.1[b]? = some y → x ≠ 0 → dd s.2 x = dd s.2 y → rk (s.2 x).via ≤ rk (s.2 y).via
  done : ∀ (m f : Nat), m < i → s.1[m]? = some f → ∀ b, b ∈ J f → b ∈ s.1 ∧ dd s.2 b ≤ dd s.2 f + 1
  cur : ∀ (f : Nat), s.1[i]? = some f → ∀ b, b ∈ (J f).take t → b ∈ s.1 ∧ dd s.2 b ≤ dd s.2 f + 1
  cur2 : ∀ (f k : Nat), s.1[i]? = some f → k ∈ s.1 → k ≠ 0 → (s.2 k).prev = f → k ∈ (J f).take t

theorem nd_inj {l : List Nat} (h : l.Nodup) {i j x : Nat} (hi : l[i]? = some x) (hj : l[j]? = some x) : i = j := by
  obtain ⟨h1, h2⟩ := List.getElem?_eq_some_iff.1 hi
  obtain ⟨h3, h4⟩ := List.getElem?_eq_some_iff.1 hj
  rcases Nat.lt_trichotomy i j with h5 | h5 | h5
  · exact absurd (h2.trans h4.symm) (List.pairwise_iff_getElem.1 h i j h1 h3 h5)
  · exact h5
  · exact absurd (h4.trans h2.symm) (List.pairwise_iff_getElem.1 h j i h3 h1 h5)

theorem nodup_len {n : Nat} : ∀ {l : List Nat}, l.Nodup → (∀ k, k ∈ l → k < n) → l.length ≤ n := by
  induction n with
  | zero =>
    intro l _ h
    cases l with
    | nil => simp
    | cons a l => exact absurd (h a (by simp)) (by omega)
  | succ n ih =>
    intro l hn h
    by_cases hm : n ∈ l
    · have h1 := ih (hn.erase n) (fun k hk => by
        have h2 := (List.Nodup.mem_erase_iff hn).1 hk
        have := h k h2.2
        have := h2.1
        omega)
      rw [List.length_erase_of_mem hm] at h1
      omega
    · have h1 := ih hn (fun k hk => by
        have h2 := h k hk
        have : k ≠ n := fun e => hm (e ▸ hk)
        omega)
      omega

theorem bi0 {n : Nat} {J : Nat → List Nat} {rk : Nat → Nat} (hg : Gr n J rk) : BI n J rk 0 0 ([0], fun _ => pt0) := by
  have h1 : ∀ {a x : Nat}, [0][a]? = some x → a = 0 ∧ x = 0 := by
    intro a x h
    cases a with
    | zero => simp at h; exact ⟨rfl, h.symm⟩
    | succ a => simp at h
  refine ⟨rfl, by simp, fun k hk => ?_, fun k hk => ?_, rfl, fun k hk => rfl, fun a b x y _ hx hy => ?_, fun b y f _ hy => ?_, fun b y hy => ?_, fun k hk => ?_, fun b k hk h0 => ?_, fun a b x y _ hx hy h0 => ?_, fun m f hm => by omega, fun f hf b hb => ?_, fun f k hf hk h0 => ?_⟩
  · simp at hk; subst hk; exact hg.n0
  · simp [pt0, hk]
  · obtain ⟨_, rfl⟩ := h1 hx; simp [dd]
  · obtain ⟨_, rfl⟩ := h1 hy; simp [dd]
  · obtain ⟨_, rfl⟩ := h1 hy; simp [dd]
  · exact ⟨hg.n0, hg.n0⟩
  · exact absurd (h1 hk).2 h0
  · exact absurd (h1 hx).2 h0
  · simp at hb
  · simp at hk; exact absurd hk h0

theorem BI.next {n : Nat} {J : Nat → List Nat} {rk : Nat → Nat} {i f : Nat} {s : List Nat × (Nat → PT)} (h : BI n J rk i (J f).length s) (hf : s.1[i]? = some f) : BI n J rk (i + 1) 0 s := by
  refine ⟨h.q0, h.nd, h.lt, h.pos, h.z, h.out, h.mono, fun b y f' hf' hy => ?_, h.far, h.vlt, fun b k hk h0 => ?_, h.viam, fun m g hm hg b hb => ?_, fun g _ b hb => ?_, fun g k hg hk h0 hp => ?_⟩
  · have h1 := h.top b y f hf hy
    have h2 := h.mono i (i + 1) f f' (by omega) hf hf'
    omega
  · obtain ⟨m, g, h1, h2, h3⟩ := h.par b k hk h0
    exact ⟨m, g, h1, by omega, h3⟩
  · by_cases e : m = i
    · subst e
      rw [hf] at hg; cases hg
      exact h.cur f hf b (by rw [List.take_length]; exact hb)
    · exact h.done m g (by omega) hg b hb
  · simp at hb
  · obtain ⟨b, hb⟩ := List.getElem?_of_mem hk
    obtain ⟨m, g', h1, h2, h3, h4, _⟩ := h.par b k hb h0
    rw [hp] at h4
    subst h4
    have := nd_inj h.nd h3 hg
    omega

theorem BI.step {n : Nat} {J : Nat → List Nat} {rk : Nat → Nat} {i t f tt : Nat} {s : List Nat × (Nat → PT)} (hg : Gr n J rk) (h : BI n J rk i t s) (hf : s.1[i]? = some f) (ht : (J f)[t]? = some tt) : BI n J rk i (t + 1) (vis f s tt) := by
  have htl : t < (J f).length := (List.getElem?_eq_some_iff.1 ht).1
  have hto : tt ∈ J f := List.mem_of_getElem? ht
  have htake : (J f).take (t + 1) = (J f).take t ++ [tt] := by
    rw [List.take_add_one, ht]; rfl
  unfold vis
  by_cases hc : tt = 0 ∨ 0 < (s.2 tt).hops
  · rw [if_pos hc]
    have hm : tt ∈ s.1 := by
      by_cases e : tt = 0
      · rw [e]; exact List.mem_of_getElem? h.q0
      · exact (h.pos tt e).1 (hc.resolve_left e)
    refine ⟨h.q0, h.nd, h.lt, h.pos, h.z, h.out, h.mono, h.top, h.far, h.vlt, h.par, h.viam, h.done, fun g hg' b hb => ?_, fun g k hg' hk h0 hp => ?_⟩
    · rw [hf] at hg'; cases hg'
      rw [htake, List.mem_append] at hb
      rcases hb with hb | hb
      · exact h.cur f hf b hb
      · simp at hb; subst hb
        obtain ⟨q, hq⟩ := List.getElem?_of_mem hm
        exact ⟨hm, h.top q b f hf hq⟩
    · have h1 := h.cur2 g k hg' hk h0 hp
      rw [hf] at hg'; cases hg'
      rw [htake, List.mem_append]; exact .inl h1
  · rw [if_neg hc]
    have h0 : tt ≠ 0 := fun e => hc (.inl e)
    have hhop : ¬ 0 < (s.2 tt).hops := fun e => hc (.inr e)
    have hm : tt ∉ s.1 := fun e => hhop ((h.pos tt h0).2 e)
    have hfm : f ∈ s.1 := List.mem_of_getElem? hf
    have hft : f ≠ tt := fun e => hm (e ▸ hfm)
    have hil : i < s.1.length := (List.getElem?_eq_some_iff.1 hf).1
    obtain ⟨p, hp⟩ : ∃ p : PT, p = if f = 0 then ⟨tt, 0, 1⟩ else ⟨(s.2 f).via, f, (s.2 f).hops + 1⟩ := ⟨_, rfl⟩
    have hp1 : p.prev = f := by rw [hp]; by_cases e : f = 0 <;> simp [e]
    have hp2 : p.hops = dd s.2 f + 1 := by rw [hp]; unfold dd; by_cases e : f = 0 <;> simp [e]
    have hp3 : p.via = if f = 0 then tt else (s.2 f).via := by rw [hp]; by_cases e : f = 0 <;> simp [e]
    rw [← hp]
    have hdo : ∀ k, k ≠ tt → dd (upd s.2 tt p) k = dd s.2 k := by
      intro k hk
      unfold dd
      rw [upd_other _ _ _ _ hk]
    have hdt : dd (upd s.2 tt p) tt = dd s.2 f + 1 := by
      unfold dd
      rw [if_neg h0, upd_same, hp2]; rfl
    have hold : ∀ {a x : Nat}, (s.1 ++ [tt])[a]? = some x → (a < s.1.length ∧ s.1[a]? = some x ∧ x ≠ tt) ∨ (a = s.1.length ∧ x = tt) := by
      intro a x hx
      by_cases ha : a < s.1.length
      · rw [List.getElem?_append_left ha] at hx
        exact .inl ⟨ha, hx, fun e => hm (e ▸ List.mem_of_getElem? hx)⟩
      · rw [List.getElem?_append_right (by omega)] at hx
        have : a - s.1.length = 0 := by
          rcases Nat.eq_zero_or_pos (a - s.1.length) with e | e
          · exact e
          · rw [List.getElem?_eq_none (by simp; omega)] at hx; cases hx
        rw [this] at hx
        simp at hx
        exact .inr ⟨by omega, hx.symm⟩
    have hnew : ∀ {a x : Nat}, s.1[a]? = some x → (s.1 ++ [tt])[a]? = some x := by
      intro a x hx
      rw [List.getElem?_append_left (List.getElem?_eq_some_iff.1 hx).1]; exact hx
    have hfd : ∀ g, (s.1 ++ [tt])[i]? = some g → g = f := by
      intro g hg'
      have := hnew hf
      rw [this] at hg'; cases hg'; rfl
    refine ⟨hnew h.q0, ?_, fun k hk => ?_, fun k hk => ?_, ?_, fun k hk => ?_, fun a b x y hab hx hy => ?_, fun b y g hg' hy => ?_, fun b y hy => ?_, fun k hk => ?_, fun b k hk hk0 => ?_, fun a b x y hab hx hy hx0 he => ?_, fun m g hmi hg' b hb => ?_, fun g hg' b hb => ?_, fun g k hg' hk hk0 hpr => ?_⟩
    · rw [List.nodup_append]
      exact ⟨h.nd, by simp, fun a ha b hb e => by simp at hb; subst hb; subst e; exact hm ha⟩
    · rw [List.mem_append] at hk
      rcases hk with hk | hk
      · exact h.lt k hk
      · simp at hk; subst hk; exact (hg.rng f k hto).1
    · by_cases e : k = tt
      · subst e
        show 0 < (upd s.2 k p k).hops ↔ _
        rw [upd_same]; simp [hp2]
      · show 0 < (upd s.2 tt p k).hops ↔ _
        rw [upd_other _ _ _ _ e, h.pos k hk]; simp [e]
    · show upd s.2 tt p 0 = pt0
      rw [upd_other _ _ _ _ (Ne.symm h0)]; exact h.z
    · rw [List.mem_append] at hk
      show upd s.2 tt p k = pt0
      rw [upd_other _ _ _ _ (fun e => hk (.inr (by simp [e])))]
      exact h.out k (fun e => hk (.inl e))
    · show dd (upd s.2 tt p) x ≤ dd (upd s.2 tt p) y
      rcases hold hx with ⟨ha, hx', hxt⟩ | ⟨ha, rfl⟩
      · rcases hold hy with ⟨hb, hy', hyt⟩ | ⟨hb, rfl⟩
        · rw [hdo x hxt, hdo y hyt]; exact h.mono a b x y hab hx' hy'
        · rw [hdo x hxt, hdt]; exact h.top a x f hf hx'
      · rcases hold hy with ⟨hb, hy', hyt⟩ | ⟨hb, rfl⟩
        · omega
        · exact Nat.le_refl _
    · have e := hfd g hg'
      subst e
      show dd (upd s.2 tt p) y ≤ dd (upd s.2 tt p) g + 1
      rw [hdo g hft]
      rcases hold hy with ⟨hb, hy', hyt⟩ | ⟨hb, rfl⟩
      · rw [hdo y hyt]; exact h.top b y g hf hy'
      · rw [hdt]; exact Nat.le_refl _
    · show dd (upd s.2 tt p) y ≤ b
      rcases hold hy with ⟨hb, hy', hyt⟩ | ⟨hb, rfl⟩
      · rw [hdo y hyt]; exact h.far b y hy'
      · rw [hdt]; have := h.far i f hf; omega
    · show (upd s.2 tt p k).via < n ∧ (upd s.2 tt p k).prev < n
      by_cases e : k = tt
      · subst e
        rw [upd_same, hp1, hp3]
        refine ⟨?_, h.lt f hfm⟩
        by_cases e : f = 0
        · rw [if_pos e]; exact (hg.rng f k hto).1
        · rw [if_neg e]; exact (h.vlt f hfm).1
      · rw [upd_other _ _ _ _ e]
        rw [List.mem_append] at hk
        exact h.vlt k (hk.resolve_right (by simp [e]))
    · rcases hold hk with ⟨hb, hk', hkt⟩ | ⟨hb, rfl⟩
      · obtain ⟨m, g, h1, h2, h3, h4, h5, h6, h7, h8⟩ := h.par b k hk' hk0
        have hgt : g ≠ tt := fun e => hm (e ▸ List.mem_of_getElem? h3)
        refine ⟨m, g, h1, h2, hnew h3, ?_, h5, ?_, ?_, fun m' f' hm' hf' => ?_⟩
        · show (upd s.2 tt p k).prev = g
          rw [upd_other _ _ _ _ hkt]; exact h4
        · show (upd s.2 tt p k).hops = dd (upd s.2 tt p) g + 1
          rw [upd_other _ _ _ _ hkt, hdo g hgt]; exact h6
        · show (upd s.2 tt p k).via = if g = 0 then k else (upd s.2 tt p g).via
          rw [upd_other _ _ _ _ hkt, upd_other _ _ _ _ hgt]; exact h7
        · have hml : m < s.1.length := (List.getElem?_eq_some_iff.1 h3).1
          rcases hold hf' with ⟨_, h9, _⟩ | ⟨h9, _⟩
          · exact h8 m' f' hm' h9
          · omega
      · refine ⟨i, f, by omega, Nat.le_refl _, hnew hf, ?_, hto, ?_, ?_, fun m' f' hm' hf' => ?_⟩
        · show (upd s.2 k p k).prev = f
          rw [upd_same]; exact hp1
        · show (upd s.2 k p k).hops = dd (upd s.2 k p) f + 1
          rw [upd_same, hdo f hft]; exact hp2
        · show (upd s.2 k p k).via = if f = 0 then k else (upd s.2 k p f).via
          rw [upd_same, upd_other _ _ _ _ hft]; exact hp3
        · intro hkf
          rcases hold hf' with ⟨_, h9, _⟩ | ⟨h9, _⟩
          · exact hm (h.done m' f' hm' h9 k hkf).1
          · omega
    · show rk (upd s.2 tt p x).via ≤ rk (upd s.2 tt p y).via
      rcases hold hx with ⟨ha, hx', hxt⟩ | ⟨ha, rfl⟩
      · rcases hold hy with ⟨hb, hy', hyt⟩ | ⟨hb, rfl⟩
        · rw [upd_other _ _ _ _ hxt, upd_other _ _ _ _ hyt]
          rw [show dd (upd s.2 tt p) x = dd s.2 x from hdo x hxt, show dd (upd s.2 tt p) y = dd s.2 y from hdo y hyt] at he
          exact h.viam a b x y hab hx' hy' hx0 he
        · rw [upd_other _ _ _ _ hxt, upd_same, hp3]
          rw [show dd (upd s.2 y p) x = dd s.2 x from hdo x hxt, show dd (upd s.2 y p) y = dd s.2 f + 1 from hdt] at he
          obtain ⟨m, g, h1, h2, h3, h4, h5, h6, h7, h8⟩ := h.par a x hx' hx0
          have hxd : dd s.2 x = (s.2 x).hops := by unfold dd; rw [if_neg hx0]
          have hgf : dd s.2 g = dd s.2 f := by omega
          by_cases e : f = 0
          · have hd0 : dd s.2 f = 0 := by rw [e]; rfl
            have hg0 : g = 0 := by
              apply Classical.byContradiction
              intro hne
              have h9 := (h.pos g hne).2 (List.mem_of_getElem? h3)
              unfold dd at hgf hd0
              rw [if_neg hne] at hgf
              omega
            rw [if_pos e, h7, if_pos hg0]
            have hxm : x ∈ s.1 := List.mem_of_getElem? hx'
            have h9 := h.cur2 f x hf hxm hx0 (by rw [h4, hg0, e])
            obtain ⟨q, hq⟩ := List.getElem?_of_mem h9
            have hqt : q < t := by
              have := (List.getElem?_eq_some_iff.1 hq).1
              simp at this
              omega
            rw [List.getElem?_take, if_pos hqt] at hq
            obtain ⟨q1, q2⟩ := List.getElem?_eq_some_iff.1 hq
            obtain ⟨t1, t2⟩ := List.getElem?_eq_some_iff.1 ht
            have := List.pairwise_iff_getElem.1 (hg.srt f) q t q1 t1 hqt
            rw [q2, t2] at this
            exact this
          · rw [if_neg e]
            have hfd0 : 0 < dd s.2 f := by
              unfold dd; rw [if_neg e]; exact (h.pos f e).2 hfm
            have hg0 : g ≠ 0 := by
              intro e'
              rw [e'] at hgf
              have : dd s.2 0 = 0 := rfl
              omega
            rw [h7, if_neg hg0]
            exact h.viam m i g f h2 h3 hf hg0 hgf
      · rcases hold hy with ⟨hb, hy', hyt⟩ | ⟨hb, rfl⟩
        · omega
        · exact Nat.le_refl _
    · rcases hold hg' with ⟨hb', hg'', hgt⟩ | ⟨hb', _⟩
      · obtain ⟨h1, h2⟩ := h.done m g hmi hg'' b hb
        refine ⟨by simp [h1], ?_⟩
        show dd (upd s.2 tt p) b ≤ dd (upd s.2 tt p) g + 1
        rw [hdo g hgt, hdo b (fun e => hm (e ▸ h1))]; exact h2
      · omega
    · have e := hfd g hg'
      subst e
      rw [htake, List.mem_append] at hb
      show b ∈ s.1 ++ [tt] ∧ dd (upd s.2 tt p) b ≤ dd (upd s.2 tt p) g + 1
      rw [hdo g hft]
      rcases hb with hb | hb
      · obtain ⟨h1, h2⟩ := h.cur g hf b hb
        refine ⟨by simp [h1], ?_⟩
        rw [hdo b (fun e => hm (e ▸ h1))]; exact h2
      · simp at hb; subst hb
        rw [hdt]
        exact ⟨by simp, Nat.le_refl _⟩
    · have e := hfd g hg'
      subst e
      rw [htake, List.mem_append]
      by_cases e : k = tt
      · subst e; exact .inr (by simp)
      · rw [List.mem_append] at hk
        refine .inl (h.cur2 g k hf (hk.resolve_right (by simp [e])) hk0 ?_)
        have : (upd s.2 tt p k).prev = g := hpr
        rw [upd_other _ _ _ _ e] at this; exact this

/-- Behind t of the neighbours of f. -/
def bit (J : Nat → List Nat) (i f t : Nat) : List Nat × (Nat → PT) := ((J f).take t).foldl (vis f) (bst J i)
theorem bit_zero (J : Nat → List Nat) (i f : Nat) : bit J i f 0 = bst J i := by simp [bit]
theorem bit_succ (J : Nat → List Nat) (i f t tt : Nat) (h : (J f)[t]? = some tt) : bit J i f (t + 1) = vis f (bit J i f t) tt := by
  unfold bit
  rw [List.take_add_one, h, List.foldl_append]; rfl
theorem bit_all (J : Nat → List Nat) (i f : Nat) (h : (bst J i).1[i]? = some f) : bit J i f (J f).length = bst J (i + 1) := by
  unfold bit
  rw [List.take_length, bst_some J i f h]
theorem vis_at (f : Nat) (s : List Nat × (Nat → PT)) (t i g : Nat) (h : s.1[i]? = some g) : (vis f s t).1[i]? = some g := by
  unfold vis
  by_cases hc : t = 0 ∨ 0 < (s.2 t).hops
  · rw [if_pos hc]; exact h
  · rw [if_neg hc]
    show (s.1 ++ [t])[i]? = some g
    rw [List.getElem?_append_left (List.getElem?_eq_some_iff.1 h).1]; exact h
theorem bi_bit {n : Nat} {J : Nat → List Nat} {rk : Nat → Nat} (hg : Gr n J rk) {i f : Nat} (h : BI n J rk i 0 (bst J i)) (hf : (bst J i).1[i]? = some f) :
    ∀ t, t ≤ (J f).length → BI n J rk i t (bit J i f t) ∧ (bit J i f t).1[i]? = some f := by
  intro t
  induction t with
  | zero => intro _; rw [bit_zero]; exact ⟨h, hf⟩
  | succ t ih =>
    intro ht
    obtain ⟨h1, h2⟩ := ih (by omega)
    have hx : (J f)[t]? = some ((J f)[t]'(by omega)) := List.getElem?_eq_getElem (by omega)
    rw [bit_succ J i f t _ hx]
    exact ⟨h1.step hg h2 hx, vis_at f _ _ i f h2⟩
theorem bi_bst {n : Nat} {J : Nat → List Nat} {rk : Nat → Nat} (hg : Gr n J rk) : ∀ i, i ≤ (bst J i).1.length → BI n J rk i 0 (bst J i) := by
  intro i
  induction i with
  | zero => intro _; exact bi0 hg
  | succ i ih =>
    intro hi
    cases hf : (bst J i).1[i]? with
    | none =>
      rw [bst_none J i hf] at hi
      have := List.getElem?_eq_none_iff.1 hf
      omega
    | some f =>
      have hl := (List.getElem?_eq_some_iff.1 hf).1
      obtain ⟨h1, h2⟩ := bi_bit hg (ih (by omega)) hf (J f).length (Nat.le_refl _)
      rw [bit_all J i f hf] at h1 h2
      exact h1.next h2

/-- What the walk finds. -/
def bfs (n : Nat) (J : Nat → List Nat) : Nat → PT := (bst J n).2
theorem bfs_of (n : Nat) (J : Nat → List Nat) (i : Nat) (hi : i ≤ n) (h : (bst J i).1.length ≤ i) : bst J n = bst J i := by
  have := bst_stay J i h (n - i)
  rw [show i + (n - i) = n by omega] at this
  exact this

/-- What it says. -/
structure BFin (n : Nat) (J : Nat → List Nat) (rk : Nat → Nat) (P : Nat → PT) : Prop where
  z : P 0 = pt0
  off : ∀ k, (P k).hops = 0 → P k = pt0
  lt : ∀ k, (P k).via < n ∧ (P k).prev < n ∧ (P k).hops ≤ n
  big : ∀ k, n ≤ k → P k = pt0
  par : ∀ k, k ≠ 0 → 0 < (P k).hops → k ∈ J (P k).prev ∧ (P k).prev ≠ k
  one : ∀ k, k ≠ 0 → (P k).hops = 1 → (P k).prev = 0 ∧ (P k).via = k
  more : ∀ k, k ≠ 0 → 1 < (P k).hops → (P k).prev ≠ 0 ∧ (P (P k).prev).hops + 1 = (P k).hops ∧ (P (P k).prev).via = (P k).via
  least : ∀ k, k ≠ 0 → 1 < (P k).hops → ∀ j, j ∈ J k → (P j).hops + 1 = (P k).hops → rk (P k).via ≤ rk (P j).via
  clos : ∀ a, (a = 0 ∨ 0 < (P a).hops) → ∀ b, b ∈ J a → (b = 0 ∨ 0 < (P b).hops) ∧ (P b).hops ≤ (P a).hops + 1

theorem bfin_of {n : Nat} {J : Nat → List Nat} {rk : Nat → Nat} (hg : Gr n J rk) {i : Nat} {s : List Nat × (Nat → PT)} (h : BI n J rk i 0 s) (hi : i = s.1.length) : BFin n J rk s.2 := by
  have hdd : ∀ k, dd s.2 k = (s.2 k).hops := by
    intro k
    unfold dd
    by_cases e : k = 0
    · rw [if_pos e, e, h.z]; rfl
    · rw [if_neg e]
  have hin : ∀ k, k ≠ 0 → 0 < (s.2 k).hops → ∃ b, s.1[b]? = some k := fun k h0 h1 => List.getElem?_of_mem ((h.pos k h0).1 h1)
  have hnot : ∀ k, (s.2 k).hops = 0 → s.2 k = pt0 := by
    intro k hk
    by_cases e : k = 0
    · rw [e]; exact h.z
    · exact h.out k (fun hm => by have := (h.pos k e).2 hm; omega)
  have hlen := nodup_len h.nd h.lt
  refine ⟨h.z, hnot, fun k => ?_, fun k hk => h.out k (fun hm => by have := h.lt k hm; omega), fun k h0 h1 => ?_, fun k h0 h1 => ?_, fun k h0 h1 => ?_, fun k h0 h1 j hj he => ?_, fun a ha b hb => ?_⟩
  · by_cases hm : k ∈ s.1
    · obtain ⟨b, hb⟩ := List.getElem?_of_mem hm
      have h1 := h.far b k hb
      rw [hdd] at h1
      have h2 := (List.getElem?_eq_some_iff.1 hb).1
      obtain ⟨h3, h4⟩ := h.vlt k hm
      exact ⟨h3, h4, by omega⟩
    · rw [h.out k hm]; exact ⟨hg.n0, hg.n0, Nat.zero_le _⟩
  · obtain ⟨b, hb⟩ := hin k h0 h1
    obtain ⟨m, f, h2, _, h3, h4, h5, _⟩ := h.par b k hb h0
    rw [h4]
    exact ⟨h5, fun e => by subst e; have := nd_inj h.nd h3 hb; omega⟩
  · obtain ⟨b, hb⟩ := hin k h0 (by omega)
    obtain ⟨m, f, h2, _, h3, h4, h5, h6, h7, _⟩ := h.par b k hb h0
    rw [hdd] at h6
    have hf0 : f = 0 := by
      apply Classical.byContradiction
      intro hne
      have := (h.pos f hne).2 (List.mem_of_getElem? h3)
      omega
    rw [h4, h7, if_pos hf0]
    exact ⟨hf0, rfl⟩
  · obtain ⟨b, hb⟩ := hin k h0 (by omega)
    obtain ⟨m, f, h2, _, h3, h4, h5, h6, h7, _⟩ := h.par b k hb h0
    rw [hdd] at h6
    have hf0 : f ≠ 0 := by
      intro e
      rw [e, h.z] at h6
      simp [pt0] at h6
      omega
    rw [h4, h7, if_neg hf0]
    exact ⟨hf0, by omega, rfl⟩
  · obtain ⟨b, hb⟩ := hin k h0 (by omega)
    obtain ⟨m, f, h2, _, h3, h4, h5, h6, h7, h8⟩ := h.par b k hb h0
    rw [hdd] at h6
    have hf0 : f ≠ 0 := by
      intro e
      rw [e, h.z] at h6
      simp [pt0] at h6
      omega
    rw [h7, if_neg hf0]
    have hj0 : j ≠ 0 := by
      intro e
      rw [e, h.z] at he
      simp [pt0] at he
      omega
    obtain ⟨q, hq⟩ := hin j hj0 (by omega)
    have hmq : m ≤ q := by
      apply Classical.byContradiction
      intro hlt
      exact h8 q j (by omega) hq (hg.sym k j hj)
    exact h.viam m q f j hmq h3 hq hf0 (by rw [hdd, hdd]; omega)
  · have hm : a ∈ s.1 := by
      by_cases e : a = 0
      · rw [e]; exact List.mem_of_getElem? h.q0
      · exact (h.pos a e).1 (ha.resolve_left e)
    obtain ⟨q, hq⟩ := List.getElem?_of_mem hm
    have hql := (List.getElem?_eq_some_iff.1 hq).1
    obtain ⟨h1, h2⟩ := h.done q a (by omega) hq b hb
    rw [hdd, hdd] at h2
    refine ⟨?_, h2⟩
    by_cases e : b = 0
    · exact .inl e
    · exact .inr ((h.pos b e).2 h1)
end PL
end Go.Proofs.Qxb6600010a
