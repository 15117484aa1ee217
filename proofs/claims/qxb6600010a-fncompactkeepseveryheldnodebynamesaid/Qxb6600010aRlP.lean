/-
  WHAT relinked AND compact LEAVE, PLAINLY.
-/
import Derived.Test.Qxb6600010aRlk
import Derived.Test.Qxb6600010aLaw5P
namespace Go.Proofs.Qxb6600010a
open Go.RowKit
set_option linter.unusedVariables false
set_option linter.unusedSimpArgs false
namespace PL
theorem ncOf_congr {f g : Nat → Bool} {n : Nat} (h : ∀ k, k < n → f k = g k) : ncOf f n = ncOf g n := by
  unfold ncOf
  rw [List.filter_congr (fun x hx => h x (List.mem_range.1 hx))]
theorem ncOf_not (f : Nat → Bool) (n : Nat) : ncOf (fun i => !f i) n + ncOf f n = n := by
  induction n with
  | zero => rfl
  | succ n ih =>
    rw [ncOf_succ, ncOf_succ]
    cases f n <;> simp <;> omega
theorem ncOf_more {f g : Nat → Bool} {c n : Nat} (hc : f c = false) (h : ∀ k, g k = (f k || decide (k = c))) : ncOf g n = ncOf f n + if c < n then 1 else 0 := by
  induction n with
  | zero => rfl
  | succ n ih =>
    rw [ncOf_succ, ncOf_succ, ih, h n]
    by_cases e : n = c
    · subst e
      simp [hc]
    · have h1 : (c < n + 1) = (c < n) := propext ⟨fun h => by omega, fun h => by omega⟩
      simp only [e, decide_false, Bool.or_false, h1]
      exact Nat.add_right_comm _ _ _
/-- Whatever a path names is held. -/
theorem bfs_held {names : List ByteArray} {n : Nat} {m : PM} (hm : PMesh names n m) {P : Nat → PT} {rk : Nat → Nat} (hf : BFin n (fun k => tg m.J k) rk P) : ∀ k, hdB m.S.T m.ls (P k).via = true ∧ hdB m.S.T m.ls (P k).prev = true := by
  have hJ : ∀ a b, a < n → b ∈ tg m.J a → hdB m.S.T m.ls a = true ∧ hdB m.S.T m.ls b = true := by
    intro a b ha hb
    have h1 := (hm.jp a ha).mem_iff.1 hb
    rw [List.mem_filter] at h1
    have h2 : 0 < m.S.ct (b, a) := by simpa using h1.2
    have h3 := (hm.inv.mem b a).2 h2
    have h4 := List.length_pos_of_mem h1.1
    have h5 := List.length_pos_of_mem h3
    unfold hdB
    exact ⟨by simp [h4], by simp [h5]⟩
  have hz : hdB m.S.T m.ls 0 = true := by simp [hdB]
  have : ∀ h k, (P k).hops ≤ h → hdB m.S.T m.ls (P k).via = true ∧ hdB m.S.T m.ls (P k).prev = true := by
    intro h
    induction h with
    | zero =>
      intro k hk
      rw [hf.off k (by omega)]
      exact ⟨hz, hz⟩
    | succ h ih =>
      intro k hk
      by_cases h0 : (P k).hops = 0
      · rw [hf.off k h0]; exact ⟨hz, hz⟩
      · have hk0 : k ≠ 0 := fun e => h0 (by rw [e, hf.z]; rfl)
        have hp := hf.par k hk0 (by omega)
        have hpl := (hf.lt k).2.1
        have hj := hJ _ _ hpl hp.1
        refine ⟨?_, hj.1⟩
        by_cases h1 : (P k).hops = 1
        · rw [(hf.one k hk0 h1).2]; exact hj.2
        · have hmr := hf.more k hk0 (by omega)
          rw [← hmr.2.2]
          exact (ih _ (by omega)).1
  exact fun k => this _ k (Nat.le_refl _)
end PL
/-- A mesh's state behind a walk. -/
def pdW (n : Nat) (names : List ByteArray) (m : PL.PM) (old : List Int) (keep : Int) : PD := { (pdState n names m old keep) with P := PL.bfs n (fun k => PL.tg m.J k) }
theorem pdW_hB (n : Nat) (names : List ByteArray) (m : PL.PM) (old : List Int) (keep : Int) : hB (pdW n names m old keep) = PL.hdB m.S.T m.ls := rfl
theorem rl1_hB (d : PD) (c : Nat) : hB (rl1 d c) = hB d := by unfold rl1; split <;> rfl
theorem rl1_L (d : PD) (c : Nat) : (rl1 d c).L = d.L := by unfold rl1; split <;> rfl
theorem rl1_lc (d : PD) (c : Nat) : (rl1 d c).lc = d.lc := by unfold rl1; split <;> rfl
theorem rl1_J (d : PD) (c : Nat) : (rl1 d c).J = d.J := by unfold rl1; split <;> rfl
theorem rl1_P (d : PD) (c : Nat) : (rl1 d c).P = d.P := by unfold rl1; split <;> rfl
theorem pdW_nc {n : Nat} {names : List ByteArray} {m : PL.PM} (old : List Int) (keep : Int) : (pdW n names m old keep).nc = PL.ncOf (PL.numB m keep) n := PL.ncOf_congr (fun k hk => by rw [tab_get _ _ _ _ hk])
theorem pdW_rel {n : Nat} {names : List ByteArray} {m : PL.PM} (old : List Int) (keep : Int) : (pdW n names m old keep).rel + PL.ncOf (PL.numB m keep) n = n := PL.ncOf_not _ _
theorem numB_c (m : PL.PM) (c k : Nat) : PL.numB m (c : Int) k = (PL.hdB m.S.T m.ls k || decide (k = c)) := by
  unfold PL.numB
  congr 1
  by_cases e : k = c
  · subst e; simp
  · simp [e]; omega
theorem numB_no (m : PL.PM) (k : Nat) : PL.numB m (-1) k = PL.hdB m.S.T m.ls k := by
  unfold PL.numB
  have : decide ((k : Int) = -1) = false := by simp <;> omega
  rw [this, Bool.or_false]
/-- What stands behind release. -/
structure R1Good (n : Nat) (names : List ByteArray) (m : PL.PM) (d1 : PD) : Prop where
  nm : d1.nm = fun k => names[k]?.getD ⟨#[]⟩
  hb : hB d1 = PL.hdB m.S.T m.ls
  L : d1.L = fun k t => m.S.ct (k, t)
  lc : d1.lc = fun k => (PL.tg m.S.T k).length
  J : d1.J = fun k => PL.tg m.J k
  ls : d1.ls = fun k => m.ls[k]?.getD 0
  P : d1.P = PL.bfs n (fun k => PL.tg m.J k)
  num : ∀ k, k < n → d1.num (d1.nm k) = if PL.hdB m.S.T m.ls k = true then some (k : Int) else none
  nc : d1.nc = PL.hc m.S.T m.ls n
  rel : d1.rel + PL.hc m.S.T m.ls n = n
theorem hc_nc (m : PL.PM) (n : Nat) : PL.hc m.S.T m.ls n = PL.ncOf (PL.hdB m.S.T m.ls) n := rfl
theorem good_w {n : Nat} {names : List ByteArray} {m : PL.PM} (hm : PL.PMesh names n m) (old : List Int) : R1Good n names m (pdW n names m old (-1)) := by
  have hnc : PL.ncOf (PL.numB m (-1)) n = PL.hc m.S.T m.ls n := PL.ncOf_congr (fun k _ => numB_no m k)
  refine ⟨rfl, rfl, rfl, rfl, rfl, rfl, rfl, fun k hk => ?_, by rw [pdW_nc, hnc], by have := pdW_rel (n := n) (names := names) (m := m) old (-1); rwa [hnc] at this⟩
  have := pd_num hm old (-1) k hk
  rw [numB_no] at this
  exact this
theorem good_rl {n c : Nat} {names : List ByteArray} {m : PL.PM} (hm : PL.PMesh names n m) (old : List Int) (hc : c < n) : R1Good n names m (rl1 (pdW n names m old (c : Int)) c) := by
  have hap : ∀ i j, i < n → j < n → (pdW n names m old (c : Int)).nm i = (pdW n names m old (c : Int)).nm j → i = j := pd_apart hm old (c : Int)
  have hrel := pdW_rel (n := n) (names := names) (m := m) old (c : Int)
  have hnc := pdW_nc (n := n) (names := names) (m := m) old (c : Int)
  by_cases h : PL.hdB m.S.T m.ls c = true
  · have e : rl1 (pdW n names m old (c : Int)) c = pdW n names m old (c : Int) := by unfold rl1; rw [pdW_hB, if_pos h]
    have hq : PL.ncOf (PL.numB m (c : Int)) n = PL.hc m.S.T m.ls n := PL.ncOf_congr (fun k _ => by
      rw [numB_c]
      by_cases e : k = c
      · subst e; simp [h]
      · simp [e])
    rw [e]
    refine ⟨rfl, rfl, rfl, rfl, rfl, rfl, rfl, fun k hk => ?_, by rw [hnc, hq], by rwa [hq] at hrel⟩
    have h2 := pd_num hm old (c : Int) k hk
    rw [numB_c] at h2
    by_cases e2 : k = c
    · subst e2
      rw [h] at h2 ⊢
      exact h2
    · simp only [e2, decide_false, Bool.or_false] at h2
      exact h2
  · have h' : PL.hdB m.S.T m.ls c = false := by simpa using h
    have e : rl1 (pdW n names m old (c : Int)) c = pdRel (pdW n names m old (c : Int)) c := by unfold rl1; rw [pdW_hB, if_neg h]
    have hq : PL.ncOf (PL.numB m (c : Int)) n = PL.hc m.S.T m.ls n + 1 := by
      rw [PL.ncOf_more (f := PL.hdB m.S.T m.ls) (c := c) h' (numB_c m c), if_pos hc]; rfl
    rw [e]
    refine ⟨rfl, rfl, rfl, rfl, rfl, rfl, rfl, fun k hk => ?_, ?_, ?_⟩
    · have h2 := pd_num hm old (c : Int) k hk
      rw [numB_c] at h2
      show (if (pdW n names m old (c : Int)).nm k = (pdW n names m old (c : Int)).nm c then none else (pdW n names m old (c : Int)).num ((pdW n names m old (c : Int)).nm k)) = _
      by_cases e2 : k = c
      · subst e2
        rw [if_pos rfl, h']; rfl
      · rw [if_neg (fun e' => e2 (hap k c hk hc e'))]
        simp only [e2, decide_false, Bool.or_false] at h2
        exact h2
    · show (pdW n names m old (c : Int)).nc - 1 = _
      rw [hnc, hq]; rfl
    · show (pdW n names m old (c : Int)).rel + 1 + _ = n
      omega
theorem cpIn_of {n : Nat} {names : List ByteArray} {m : PL.PM} {d : PD} {b : PB} {B p : Nat} (hm : PL.PMesh names n m) (h : R1Good n names m d) (hsz : ∀ k : Nat, (names[k]?.getD ⟨#[]⟩).size ≤ maxLen) (hji : ∀ i j g, i < n → j < n → b.jb i = some g → b.jb j = some g → i = j) : CpIn n (PL.hc m.S.T m.ls n) d b (fun k => PL.tg m.S.T k) := by
  have hfin := PL.bfs_fin (PL.gr_of hm)
  refine ⟨hm.n0, hm.n1, by rw [h.hb]; rfl, h.rel, fun i j hi hj e => ?_, fun k => by rw [h.nm]; exact hsz k, fun k hk => ?_, fun k t => by rw [h.L]; exact hm.inv.small _, fun k hk => by rw [h.lc]; exact hm.inv.short k, fun k hk => ?_, fun k hk => ?_, hji⟩
  · rw [h.nm] at e
    exact PL.apart_of hm.ranked hm.nl i j hi hj e
  · rw [h.lc, h.L, h.hb]
    refine ⟨hm.inv.nodup k, rfl, fun t => ?_, fun t ht => ⟨((hm.inv.rng k t ((hm.inv.mem k t).1 ht))).2.1, ?_⟩⟩
    · rw [hm.inv.mem k t]; exact Nat.pos_iff_ne_zero
    · have := hm.lp k hk t ht
      simp [PL.hdB, this]
  · rw [h.J]
    refine ⟨PL.jlen hm k hk, fun x hx => ?_⟩
    have h1 := (hm.jp k hk).mem_iff.1 hx
    rw [List.mem_filter] at h1
    exact ((hm.inv.rng k x ((hm.inv.mem k x).1 h1.1))).2.1
  · rw [h.P]
    exact ⟨(hfin.lt k).1, (hfin.lt k).2.1⟩
/-- What a reader by names is to find. -/
structure Kept (n n' : Nat) (nm : Nat → ByteArray) (P : Nat → PT) (hd : Nat → Bool) (d' : PD) : Prop where
  le : n' ≤ n
  yes : ∀ k, k < n → hd k = true → ∃ j, j < n' ∧ d'.num (nm k) = some (j : Int) ∧ d'.nm j = nm k ∧ nmd d'.nm (d'.P j) = nmd nm (P k) ∧ ((d'.P j).hops = 0 ∨ ((d'.P j).via < n' ∧ (d'.P j).prev < n')) ∧ (d'.P j).hops ≤ 1000000
  no : ∀ k, k < n → hd k = false → d'.num (nm k) = none
  room : d'.nc + d'.rel = n'
  half : 2 * d'.rel ≤ n'
theorem pdC_path {n : Nat} {names : List ByteArray} {m : PL.PM} {d : PD} (hm : PL.PMesh names n m) (h : R1Good n names m d) (k : Nat) (hk : k < n) (hh : PL.hdB m.S.T m.ls k = true) :
    PL.ncOf (PL.hdB m.S.T m.ls) k < PL.hc m.S.T m.ls n ∧ (pdC d n (PL.hc m.S.T m.ls n)).num (d.nm k) = some (PL.ncOf (PL.hdB m.S.T m.ls) k : Int) ∧ (pdC d n (PL.hc m.S.T m.ls n)).nm (PL.ncOf (PL.hdB m.S.T m.ls) k) = d.nm k ∧ nmd (pdC d n (PL.hc m.S.T m.ls n)).nm ((pdC d n (PL.hc m.S.T m.ls n)).P (PL.ncOf (PL.hdB m.S.T m.ls) k)) = nmd d.nm (d.P k)
    ∧ ((pdC d n (PL.hc m.S.T m.ls n)).P (PL.ncOf (PL.hdB m.S.T m.ls) k)).via < PL.hc m.S.T m.ls n ∧ ((pdC d n (PL.hc m.S.T m.ls n)).P (PL.ncOf (PL.hdB m.S.T m.ls) k)).prev < PL.hc m.S.T m.ls n ∧ ((pdC d n (PL.hc m.S.T m.ls n)).P (PL.ncOf (PL.hdB m.S.T m.ls) k)).hops ≤ n ∧ PL.hidx (PL.hdB m.S.T m.ls) n (PL.ncOf (PL.hdB m.S.T m.ls) k) = k := by
  have hfin := PL.bfs_fin (PL.gr_of hm)
  have hlt := PL.ncOf_lt (PL.hdB m.S.T m.ls) hk hh
  have hidx := PL.hidx_at (PL.hdB m.S.T m.ls) hk hh
  have hap : ∀ i j, i < n → j < n → d.nm i = d.nm j → i = j := fun i j hi hj e => by rw [h.nm] at e; exact PL.apart_of hm.ranked hm.nl i j hi hj e
  have hhd := PL.bfs_held hm hfin k
  have hlk := hfin.lt k
  have hrn : ∀ t, t < n → PL.hdB m.S.T m.ls t = true → PL.rnF (PL.hdB m.S.T m.ls) t < PL.hc m.S.T m.ls n ∧ PL.hidx (PL.hdB m.S.T m.ls) n (PL.rnF (PL.hdB m.S.T m.ls) t) = t := fun t ht hh => by
    unfold PL.rnF
    rw [if_pos hh]
    exact ⟨PL.ncOf_lt _ ht hh, PL.hidx_at _ ht hh⟩
  have hv := hrn _ hlk.1 hhd.1
  have hp := hrn _ hlk.2.1 hhd.2
  have hPk : (pdC d n (PL.hc m.S.T m.ls n)).P (PL.ncOf (PL.hdB m.S.T m.ls) k) = ⟨PL.rnF (PL.hdB m.S.T m.ls) (PL.bfs n (fun k => PL.tg m.J k) k).via, PL.rnF (PL.hdB m.S.T m.ls) (PL.bfs n (fun k => PL.tg m.J k) k).prev, (PL.bfs n (fun k => PL.tg m.J k) k).hops⟩ := by
    unfold pdC
    simp only [h.hb, h.P, hidx]
  have hnm : ∀ j, (pdC d n (PL.hc m.S.T m.ls n)).nm j = d.nm (PL.hidx (PL.hdB m.S.T m.ls) n j) := fun j => by
    unfold pdC
    simp only [h.hb]
  refine ⟨hlt, ?_, by rw [hnm, hidx], ?_, by rw [hPk]; exact hv.1, by rw [hPk]; exact hp.1, by rw [hPk]; exact hlk.2.2, hidx⟩
  · show PL.numC (hB d) d.nm n (d.nm k) = _
    rw [h.hb, PL.numC_at _ hap n k hk (Nat.le_refl _), if_pos ⟨hk, hh⟩]
  · rw [hPk, h.P]
    unfold nmd
    simp only []
    by_cases h0 : (PL.bfs n (fun k => PL.tg m.J k) k).hops = 0
    · rw [if_pos h0, if_pos h0]
    · rw [if_neg h0, if_neg h0, hnm, hnm, hv.2, hp.2]
theorem kept_of {n : Nat} {names : List ByteArray} {m : PL.PM} {d : PD} (hm : PL.PMesh names n m) (h : R1Good n names m d) : Kept n (if n < 2 * d.rel then PL.hc m.S.T m.ls n else n) (fun k => names[k]?.getD ⟨#[]⟩) (PL.bfs n (fun k => PL.tg m.J k)) (PL.hdB m.S.T m.ls) (if n < 2 * d.rel then pdC d n (PL.hc m.S.T m.ls n) else d) := by
  have hfin := PL.bfs_fin (PL.gr_of hm)
  have hn1 := hm.n1
  have hap : ∀ i j, i < n → j < n → d.nm i = d.nm j → i = j := fun i j hi hj e => by rw [h.nm] at e; exact PL.apart_of hm.ranked hm.nl i j hi hj e
  have hnm : (fun k : Nat => names[k]?.getD ⟨#[]⟩) = d.nm := h.nm.symm
  rw [hnm, ← h.P]
  by_cases hg : n < 2 * d.rel
  · rw [if_pos hg, if_pos hg]
    refine ⟨PL.hc_le _ _ _, fun k hk hh => ?_, fun k hk hh => ?_, rfl, Nat.zero_le _⟩
    · obtain ⟨a1, a2, a3, a4, a5, a6, a7, _⟩ := pdC_path hm h k hk hh
      exact ⟨_, a1, a2, a3, a4, .inr ⟨a5, a6⟩, by omega⟩
    · show PL.numC (hB d) d.nm n (d.nm k) = _
      rw [h.hb, PL.numC_at _ hap n k hk (Nat.le_refl _), if_neg (by rw [hh]; simp)]
  · rw [if_neg hg, if_neg hg]
    have hr := h.rel
    refine ⟨Nat.le_refl _, fun k hk hh => ?_, fun k hk hh => ?_, by rw [h.nc]; omega, by omega⟩
    · refine ⟨k, hk, by rw [h.num k hk, if_pos hh], rfl, rfl, ?_, ?_⟩
      · rw [h.P]; exact .inr ⟨(hfin.lt k).1, (hfin.lt k).2.1⟩
      · rw [h.P]; have := (hfin.lt k).2.2; omega
    · rw [h.num k hk, hh]; rfl
end Go.Proofs.Qxb6600010a
