/-
  THE CHANGES, PLAINLY.
-/
import Derived.Test.Qxb6600010aLaw5L
namespace Go.Proofs.Qxb6600010a
open Go.RowKit
set_option linter.unusedVariables false
set_option linter.unusedSimpArgs false

/-! ### The changes, plainly -/
theorem difs_mem {P P' : Nat → PT} {n k : Nat} : k ∈ difs P P' n ↔ k < n ∧ 1 ≤ k ∧ ptNe (P' k) (P k) = true := by
  unfold difs
  rw [List.mem_filter, List.mem_range]
  simp
theorem difs_pw {nm : Nat → ByteArray} {P P' : Nat → PT} {n : Nat} (ha : ∀ i j, i < n → j < n → nm i = nm j → i = j) : ((difs P P' n).map (chOf nm P P')).Pairwise (fun x y => x.nm ≠ y.nm) := by
  rw [List.pairwise_map]
  have h1 : (difs P P' n).Pairwise (fun a b => a ≠ b) := List.Pairwise.filter _ (List.nodup_range (n := n))
  refine h1.imp_of_mem ?_
  intro a b hma hmb hne he
  exact hne (ha a b (difs_mem.1 hma).1 (difs_mem.1 hmb).1 he)
theorem chg_strict {C D : List CH} (hp : C.Perm D) (hd : D.Pairwise (fun x y => x.nm ≠ y.nm)) (hs : C.Pairwise (fun x y => PL.nlt y.nm x.nm = false)) : C.Pairwise (fun x y => PL.nlt x.nm y.nm = true) := by
  have h1 : C.Pairwise (fun x y => x.nm ≠ y.nm) := (hp.pairwise_iff (fun {x y} h => Ne.symm h)).2 hd
  refine pw_to ?_ _ (List.Pairwise.and h1 hs)
  intro x y ⟨h2, h3⟩
  cases h4 : PL.nlt x.nm y.nm
  · exact absurd (PL.nlt_tri h4 h3) h2
  · rfl
theorem chg_next {C : List CH} (h : C.Pairwise (fun x y => PL.nlt x.nm y.nm = true)) (i : Nat) (x y : CH) (hx : C[i]? = some x) (hy : C[i + 1]? = some y) : PL.nlt x.nm y.nm = true := by
  obtain ⟨h1, e1⟩ := List.getElem?_eq_some_iff.1 hx
  obtain ⟨h2, e2⟩ := List.getElem?_eq_some_iff.1 hy
  have := List.pairwise_iff_getElem.1 h i (i + 1) h1 h2 (by omega)
  rw [e1, e2] at this
  exact this
theorem pd_nm (n : Nat) (names : List ByteArray) (m : PL.PM) (old : List Int) (keep : Int) (k : Nat) : (pdState n names m old keep).nm k = names[k]?.getD ⟨#[]⟩ := rfl
theorem pd_apart {names : List ByteArray} {n : Nat} {m : PL.PM} (h : PL.PMesh names n m) (old : List Int) (keep : Int) : ∀ i j, i < n → j < n → (pdState n names m old keep).nm i = (pdState n names m old keep).nm j → i = j := fun i j hi hj e => PL.apart_of h.ranked h.nl i j hi hj e
theorem pd_num {names : List ByteArray} {n : Nat} {m : PL.PM} (h : PL.PMesh names n m) (old : List Int) (keep : Int) (k : Nat) (hk : k < n) : (pdState n names m old keep).num ((pdState n names m old keep).nm k) = if PL.numB m keep k = true then some (k : Int) else none := by
  show PL.numOf names (fun k => (tab n (PL.numB m keep))[k]?.getD false) n (names[k]?.getD ⟨#[]⟩) = _
  rw [PL.numOf_at (PL.apart_of h.ranked h.nl) _ n k hk (Nat.le_refl _)]
  simp only [tab_get _ _ _ _ hk, hk, true_and]
theorem good_old {n : Nat} {m : PL.PM} (old : List Int) (keep : Int) (h0 : 0 < n) (k : Nat) : GoodP n (PL.oldP n m old keep k) := by
  refine ⟨fun h => ?_, fun h => ?_⟩
  · unfold PL.oldP at h ⊢
    split at h
    · rename_i hc
      have := hc.2.2.2
      simp at h
      omega
    · rename_i hc
      rw [if_neg hc]
  · rcases (PL.oldP_ok (m := m) old keep h0 k).1 with h1 | h1
    · exact absurd h1 h
    · exact h1
theorem good_bfs {n : Nat} {J : Nat → List Nat} {rk : Nat → Nat} {P : Nat → PT} (h : PL.BFin n J rk P) (k : Nat) : GoodP n (P k) := ⟨h.off k, fun _ => ⟨(h.lt k).1, (h.lt k).2.1⟩⟩
/-- A node whose path turned is numbered. -/
theorem turned_num {names : List ByteArray} {n : Nat} {m : PL.PM} (hm : PL.PMesh names n m) (old : List Int) (keep : Int) (k : Nat) (hk : 1 ≤ k) (hne : ptNe (PL.bfs n (fun k => PL.tg m.J k) k) (PL.oldP n m old keep k) = true) : PL.numB m keep k = true := by
  have hF := PL.bfs_fin (PL.gr_of hm)
  by_cases h1 : 0 < (PL.bfs n (fun k => PL.tg m.J k) k).hops
  · have h2 := (hF.par k (by omega) h1).1
    have h3 := (PL.jmem hm _ k).1 h2
    have h4 := hm.inv.rng _ _ h3.1
    have h5 := hm.lp _ h4.1 k ((hm.inv.mem _ k).2 h3.1)
    unfold PL.numB PL.hdB
    simp [h5]
  · have e1 := hF.off k (by omega)
    cases h : PL.numB m keep k
    · have e2 : PL.oldP n m old keep k = pt0 := by unfold PL.oldP; rw [if_neg (fun hc => by rw [h] at hc; simp at hc)]
      rw [e1, e2] at hne
      simp [ptNe] at hne
    · rfl
end Go.Proofs.Qxb6600010a
