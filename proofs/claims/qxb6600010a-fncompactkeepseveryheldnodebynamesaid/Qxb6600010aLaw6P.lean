/-
  WHAT compact LEAVES, BY NAMES: the plain side of FnCompactKeepsEveryHeldNodeByName.
-/
import Derived.Test.Qxb6600010aRlP2
namespace Go.Proofs.Qxb6600010a
open Go.RowKit
set_option linter.unusedVariables false
set_option linter.unusedSimpArgs false
/-- What the law's reader is to find. -/
structure K6 (n hc : Nat) (nm : Nat → ByteArray) (m : PL.PM) (P : Nat → PT) (d' : PD) : Prop where
  le : hc ≤ n
  yes : ∀ k, k < n → PL.hdB m.S.T m.ls k = true → ∀ j, PL.ncOf (PL.hdB m.S.T m.ls) k = j → j < hc ∧ d'.num (nm k) = some (j : Int) ∧ d'.nm j = nm k ∧ nmd d'.nm (d'.P j) = nmd nm (P k) ∧ ((d'.P j).hops = 0 ∨ ((d'.P j).via < hc ∧ (d'.P j).prev < hc)) ∧ (d'.P j).hops ≤ 1000000
    ∧ d'.ls j = m.ls[k]?.getD 0 ∧ d'.lc j = (PL.tg m.S.T k).length ∧ (∀ t, t ∈ PL.tg m.S.T k → t < n ∧ PL.hdB m.S.T m.ls t = true ∧ d'.L j (PL.ncOf (PL.hdB m.S.T m.ls) t) = m.S.ct (k, t))
    ∧ d'.J j = (PL.tg m.J k).map (PL.ncOf (PL.hdB m.S.T m.ls)) ∧ ∀ b, b ∈ PL.tg m.J k → b < n ∧ PL.hdB m.S.T m.ls b = true
  no : ∀ k, k < n → PL.hdB m.S.T m.ls k = false → d'.num (nm k) = none
theorem k6_of {n : Nat} {names : List ByteArray} {m : PL.PM} {d : PD} (hm : PL.PMesh names n m) (h : R1Good n names m d) : K6 n (PL.hc m.S.T m.ls n) (fun k => names[k]?.getD ⟨#[]⟩) m (PL.bfs n (fun k => PL.tg m.J k)) (pdC d n (PL.hc m.S.T m.ls n)) := by
  have hn1 := hm.n1
  have hap : ∀ i j, i < n → j < n → d.nm i = d.nm j → i = j := fun i j hi hj e => by rw [h.nm] at e; exact PL.apart_of hm.ranked hm.nl i j hi hj e
  have hnm : (fun k : Nat => names[k]?.getD ⟨#[]⟩) = d.nm := h.nm.symm
  have hT : ∀ k, k < n → ∀ t, t ∈ PL.tg m.S.T k → t < n ∧ PL.hdB m.S.T m.ls t = true := fun k hk t ht => by
    refine ⟨(hm.inv.rng k t ((hm.inv.mem k t).1 ht)).2.1, ?_⟩
    have := hm.lp k hk t ht
    simp [PL.hdB, this]
  have hJ : ∀ k, k < n → ∀ b, b ∈ PL.tg m.J k → b < n ∧ PL.hdB m.S.T m.ls b = true := fun k hk b hb => by
    have h1 := (hm.jp k hk).mem_iff.1 hb
    rw [List.mem_filter] at h1
    exact hT k hk b h1.1
  rw [hnm, ← h.P]
  refine ⟨PL.hc_le _ _ _, fun k hk hh j hj => ?_, fun k hk hh => ?_⟩
  · subst hj
    obtain ⟨a1, a2, a3, a4, a5, a6, a7, a8⟩ := pdC_path hm h k hk hh
    refine ⟨a1, a2, a3, a4, .inr ⟨a5, a6⟩, by omega, ?_, ?_, fun t ht => ?_, ?_, hJ k hk⟩
    · unfold pdC
      simp only [h.hb, a8, h.ls]
    · unfold pdC
      simp only [h.hb, a8, h.lc]
    · obtain ⟨t1, t2⟩ := hT k hk t ht
      refine ⟨t1, t2, ?_⟩
      have hl := PL.ncOf_lt (PL.hdB m.S.T m.ls) t1 t2
      have hi := PL.hidx_at (PL.hdB m.S.T m.ls) t1 t2
      have hl' : PL.ncOf (PL.hdB m.S.T m.ls) t < PL.hc m.S.T m.ls n := hl
      unfold pdC
      simp only [h.hb, a8, h.L, hi, hl', if_true]
    · unfold pdC
      simp only [h.hb, a8, h.J]
      refine List.map_congr_left (fun b hb => ?_)
      unfold PL.rnF
      rw [if_pos (hJ k hk b hb).2]
  · show PL.numC (hB d) d.nm n (d.nm k) = _
    rw [h.hb, PL.numC_at _ hap n k hk (Nat.le_refl _), if_neg (by rw [hh]; simp)]
end Go.Proofs.Qxb6600010a
