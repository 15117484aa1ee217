/-
  THE TARGETS AND THE COUNTS IN MEMORY while zzBuild fills them: what one append and one store make of them.
-/
import Derived.Test.Qxb6600010aBase
import Derived.Test.Qxb6600010aMesh
namespace Go.Proofs.Qxb6600010a
open Go.RowKit

/-- The row of target slices at tb, no two in one block; the counts at cb. -/
structure TgAt (w : World) (base tb cb n c : Nat) (T : List (List Nat)) (ct : Nat × Nat → Nat) (TV : List Value) : Prop where
  row : Row w tb 23 TV
  len : TV.length = n
  own : ∀ a v, TV[a]? = some v → w.ownsRow base 3 1 v (PL.tg T a).length (nats (PL.tg T a))
  sep : ∀ (a b : Nat) (va vb : Value) (k : Nat), TV[a]? = some va → TV[b]? = some vb → va.ownBlock = some k → vb.ownBlock = some k → a = b
  cnt : MapAt kP w 41 cb c (fun p => if ct p = 0 then none else some (ct p : Int))

theorem TgAt.grown {w w' : World} {base tb cb n c : Nat} {T : List (List Nat)} {ct : Nat × Nat → Nat} {TV : List Value} (h : TgAt w base tb cb n c T ct TV) (hg : w.grownBy w' none) : TgAt w' base tb cb n c T ct TV :=
  ⟨h.row.kept hg (by simp), h.len, fun a v hv => (h.own a v hv).kept hg (by cases v.ownBlock <;> simp), h.sep, h.cnt.kept hg (by simp)⟩

theorem tg0 {w : World} {base tb cb n : Nat} (h1 : Row w tb 23 (List.replicate n (.slice none 0 0))) (h2 : MapAt kP w 41 cb 0 (fun _ => none)) : TgAt w base tb cb n 0 (PL.ms0 n).T (PL.ms0 n).ct (List.replicate n (.slice none 0 0)) := by
  have h0 : ∀ a, PL.tg (PL.ms0 n).T a = [] := by
    intro a
    unfold PL.tg PL.ms0
    simp only [List.getElem?_replicate]
    split <;> rfl
  refine ⟨h1, by simp, fun a v hv => ?_, fun a b va vb k ha hb hka _ => ?_, h2.congr (fun p => by simp [PL.ms0])⟩
  · rw [List.getElem?_replicate] at hv
    split at hv
    · cases hv; rw [h0]; exact World.ownsRow_nil _ _ _ _
    · cases hv
  · rw [List.getElem?_replicate] at ha
    split at ha
    · cases ha; simp [Value.ownBlock] at hka
    · cases ha

/-- One append. -/
theorem TgAt.append {w W1 w1 : World} {base tb cb n c : Nat} {T : List (List Nat)} {ct : Nat × Nat → Nat} {TV : List Value} (h : TgAt w base tb cb n c T ct TV) (htb : tb < base) (hcb : cb < base) (hne : tb ≠ cb)
    {a b g cap : Nat} {v : Value} (ha : a < n) (hT : T.length = n) (hv : TV[a]? = some v) (hW : w.grownBy W1 none) (hgr : W1.grownBy w1 v.ownBlock)
    (hown : w1.ownsRow base 3 1 (.slice (some ⟨g, 0, none⟩) ((PL.tg T a).length + 1) cap) ((PL.tg T a).length + 1) (nats (PL.tg T a) ++ [.int .i64 (b : Int)]))
    (hat : v.ownBlock = some g ∨ w.heap.size ≤ g) :
    TgAt (w1.setCell ⟨tb, a, none⟩ (.slice (some ⟨g, 0, none⟩) ((PL.tg T a).length + 1) cap)) base tb cb n c (T.set a (PL.tg T a ++ [b])) ct (TV.set a (.slice (some ⟨g, 0, none⟩) ((PL.tg T a).length + 1) cap)) := by
  have h1 := h.grown hW
  have hvb : ∀ k, v.ownBlock = some k → base ≤ k := fun k hk => (owns_block (h1.own a v hv) k hk).1
  have hgb : base ≤ g := (owns_block hown g rfl).1
  have haT : a < TV.length := by rw [h.len]; exact ha
  have hoth : ∀ a' v', a' ≠ a → TV[a']? = some v' → ∀ k, v'.ownBlock = some k → k ≠ g := by
    intro a' v' hne' hv' k hk e
    subst e
    rcases hat with hat | hat
    · exact hne' (h.sep a' a v' v k hv' hv hk hat)
    · have := (owns_block (h.own a' v' hv') k hk).2.1; omega
  refine ⟨?_, by simp [h.len], fun a' v' hv' => ?_, fun a1 a2 v1 v2 k hv1 hv2 hk1 hk2 => ?_, ?_⟩
  · exact (h1.row.kept hgr (fun e => by have := hvb tb e.symm; omega)).set a _
  · rw [PL.tg_set T a a' _ (by rw [hT]; exact ha)]
    by_cases e : a' = a
    · subst e
      rw [List.getElem?_set_self haT] at hv'
      cases hv'
      rw [if_pos rfl, nats_snoc]
      have : (PL.tg T a' ++ [b]).length = (PL.tg T a').length + 1 := by simp
      rw [this]
      exact ownsRow_setCell_below hown (a := ⟨tb, a', none⟩) (by show tb < base; exact htb) _
    · rw [if_neg e]
      rw [List.getElem?_set_ne (fun e' => e e'.symm)] at hv'
      have ho := (h1.own a' v' hv').kept hgr (by
        cases hk : v'.ownBlock with
        | none => exact .inl rfl
        | some k =>
          right
          intro e2
          exact e (h.sep a' a v' v k hv' hv hk e2.symm))
      exact ownsRow_setCell_below ho (a := ⟨tb, a, none⟩) (by show tb < base; exact htb) _
  · by_cases e1 : a1 = a
    · by_cases e2 : a2 = a
      · rw [e1, e2]
      · exfalso
        subst e1
        rw [List.getElem?_set_self haT] at hv1
        rw [List.getElem?_set_ne (fun e' => e2 e'.symm)] at hv2
        cases hv1
        simp [Value.ownBlock] at hk1
        exact hoth a2 v2 e2 hv2 k hk2 hk1.symm
    · by_cases e2 : a2 = a
      · exfalso
        subst e2
        rw [List.getElem?_set_self haT] at hv2
        rw [List.getElem?_set_ne (fun e' => e1 e'.symm)] at hv1
        cases hv2
        simp [Value.ownBlock] at hk2
        exact hoth a1 v1 e1 hv1 k hk1 hk2.symm
      · rw [List.getElem?_set_ne (fun e' => e1 e'.symm)] at hv1
        rw [List.getElem?_set_ne (fun e' => e2 e'.symm)] at hv2
        exact h.sep a1 a2 v1 v2 k hv1 hv2 hk1 hk2
  · exact (h1.cnt.kept hgr (fun e => by have := hvb cb e.symm; omega)).kept (grown_set w1 tb a _) (by simpa using hne.symm)

/-- One count. -/
theorem TgAt.count {w : World} {base tb cb n c : Nat} {T : List (List Nat)} {ct : Nat × Nat → Nat} {TV : List Value} (h : TgAt w base tb cb n c T ct TV) (hcb : cb < base) (hne : tb ≠ cb) (hc : c < 1000000) {p : Nat × Nat} (h1 : p.1 ≤ 1000000) (h2 : p.2 ≤ 1000000) (hsm : ct p ≤ 1000000) :
    ∃ w' c', (Instr.mapUpdate 29 (.map (some cb)) (kP p) (.int .i64 ((ct p : Int) + 1))).run Try.prog w = .ok () w' ∧ w.grownBy w' (some cb) ∧ c' ≤ c + 1 ∧ TgAt w' base tb cb n c' T (fun q => if q = p then ct p + 1 else ct q) TV := by
  obtain ⟨l, hl⟩ := key41 (p := p) (by omega) (by omega)
  obtain ⟨w', hrun, hg, hm⟩ := h.cnt.store kP_inj keyed41 Try.underlying29 (by omega) hl ((ct p : Int) + 1) (wf_small (by omega) (by omega))
  refine ⟨w', _, hrun, hg, ?_, h.row.kept hg (by simpa using hne), h.len, fun a v hv => (h.own a v hv).kept hg ?_, h.sep, hm.congr (fun q => ?_)⟩
  · by_cases hz : ct p = 0 <;> simp [hz]
  · cases hk : v.ownBlock with
    | none => exact .inl rfl
    | some k =>
      right
      intro e
      have := (owns_block (h.own a v hv) k hk).1
      cases e; omega
  · by_cases e : q = p
    · subst e; simp
    · simp [e]

/-- A count is read. -/
theorem TgAt.look {w : World} {base tb cb n c : Nat} {T : List (List Nat)} {ct : Nat × Nat → Nat} {TV : List Value} (h : TgAt w base tb cb n c T ct TV) {p : Nat × Nat} (h1 : p.1 ≤ 1000000) (h2 : p.2 ≤ 1000000) :
    (Instr.lookup 29 (.map (some cb)) (kP p) false).run Try.prog w = .ok (.int .i64 (ct p : Int)) w := by
  obtain ⟨l, hl⟩ := key41 (p := p) (by omega) (by omega)
  have := h.cnt.look (t := 29) keyed41 Try.underlying29 hl
  rw [this]
  by_cases e : ct p = 0 <;> simp [e]

end Go.Proofs.Qxb6600010a
