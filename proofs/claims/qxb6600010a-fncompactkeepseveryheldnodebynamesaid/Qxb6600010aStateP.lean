/-
  WHAT zzState LAYS OUT.
-/
import Derived.Test.Qxb6600010aNewP
import Derived.Test.Qxb6600010aSmall
namespace Go.Proofs.Qxb6600010a
open Go.RowKit
set_option linter.unusedVariables false
set_option linter.unusedSimpArgs false

/-! ### Lists by a function -/
def tab {α : Type} (n : Nat) (g : Nat → α) : List α := (List.range n).map g
theorem tab_len {α : Type} (n : Nat) (g : Nat → α) : (tab n g).length = n := by simp [tab]
theorem tab_at {α : Type} (n k : Nat) (g : Nat → α) (h : k < n) : (tab n g)[k]? = some (g k) := by simp [tab, h]
theorem tab_get {α : Type} (n k : Nat) (g : Nat → α) (z : α) (h : k < n) : (tab n g)[k]?.getD z = g k := by rw [tab_at n k g h]; rfl
theorem tab_set {α : Type} (n k : Nat) (g : Nat → α) (v : α) : (tab n g).set k v = tab n (upd g k v) := by
  apply List.ext_getElem?
  intro i
  by_cases h : i < n
  · rw [tab_at n i (upd g k v) h]
    by_cases e : i = k
    · subst e; rw [List.getElem?_set_self (by rw [tab_len]; exact h), upd_same]
    · rw [List.getElem?_set_ne (fun e' => e e'.symm), tab_at n i g h, upd_other _ _ _ _ e]
  · rw [List.getElem?_eq_none (l := tab n (upd g k v)) (by rw [tab_len]; omega), List.getElem?_eq_none (by rw [List.length_set, tab_len]; omega)]
theorem tab_rep {α : Type} (n : Nat) (f : Nat → α) (z : α) : List.replicate n z = tab n (pre 0 f z) := by
  apply List.ext_getElem?
  intro i
  by_cases h : i < n
  · rw [tab_at n i _ h, List.getElem?_replicate, if_pos h]; simp [pre]
  · rw [List.getElem?_eq_none (by simp; omega), List.getElem?_eq_none (by rw [tab_len]; omega)]
theorem tab_pre {α : Type} (n k : Nat) (f : Nat → α) (z : α) : (tab n (pre k f z)).set k (f k) = tab n (pre (k + 1) f z) := by rw [tab_set, pre_upd]
theorem tab_pre' {α : Type} (n k : Nat) (f : Nat → α) (z v : α) (h : v = f k) : (tab n (pre k f z)).set k v = tab n (pre (k + 1) f z) := by subst h; exact tab_pre n k f z
theorem tab_stay {α : Type} (n k : Nat) (f : Nat → α) (z : α) (h : f k = z) : tab n (pre k f z) = tab n (pre (k + 1) f z) := by
  have : pre k f z = pre (k + 1) f z := by
    rw [← pre_upd]
    funext i
    unfold upd
    by_cases e : i = k
    · rw [if_pos e, e, pre_self, h]
    · rw [if_neg e]
  rw [this]
theorem tab_full {α : Type} (n : Nat) (f : Nat → α) (z : α) : tab n (pre n f z) = tab n f := by
  apply List.ext_getElem?
  intro i
  by_cases h : i < n
  · rw [tab_at n i _ h, tab_at n i _ h]; simp [pre, h]
  · rw [List.getElem?_eq_none (by rw [tab_len]; omega), List.getElem?_eq_none (by rw [tab_len]; omega)]
theorem tab_nats (n : Nat) (f : Nat → Nat) : nats (tab n f) = tab n (fun k => Value.int .i64 (f k : Int)) := by simp [nats, tab, Function.comp_def]
theorem tab_bools (n : Nat) (f : Nat → Bool) : bools (tab n f) = tab n (fun k => Value.bool (f k)) := by simp [bools, tab, Function.comp_def]

namespace PL
/-- Which nodes are numbered. -/
def numB (m : PM) (keep : Int) (k : Nat) : Bool := hdB m.S.T m.ls k || decide ((k : Int) = keep)
/-- The path that the old numbers give. -/
def oldP (n : Nat) (m : PM) (old : List Int) (keep : Int) (k : Nat) : PT :=
  if numB m keep k = true ∧ 0 < k ∧ 3 * k + 2 < old.length ∧ 0 < md (old[3 * k + 2]?.getD 0) (n + 1) then ⟨md (old[3 * k]?.getD 0) n, md (old[3 * k + 1]?.getD 0) n, md (old[3 * k + 2]?.getD 0) (n + 1)⟩ else pt0
/-- How many of the first k are let go. -/
def relC (m : PM) (keep : Int) (k : Nat) : Nat := ((List.range k).filter fun i => !numB m keep i).length
theorem relC_succ (m : PM) (keep : Int) (k : Nat) : relC m keep (k + 1) = relC m keep k + if numB m keep k then 0 else 1 := by
  unfold relC
  rw [List.range_succ, List.filter_append, List.length_append]
  by_cases h : numB m keep k <;> simp [h]
theorem relC_le (m : PM) (keep : Int) (k : Nat) : relC m keep k ≤ k := by
  unfold relC
  have := List.length_filter_le (fun i => !numB m keep i) (List.range k)
  simpa using this
theorem apart_of {names : List ByteArray} {rk : List Nat} {n : Nat} (h : Ranked names rk) (hn : names.length = n) : Apart names n := by
  intro i j hi hj e
  have h1 : i < names.length := by omega
  have h2 : j < names.length := by omega
  rw [List.getElem?_eq_getElem h1, List.getElem?_eq_getElem h2] at e
  exact h.inj i j h1 h2 e
end PL
def pdState (n : Nat) (names : List ByteArray) (m : PL.PM) (old : List Int) (keep : Int) : PD :=
  pdNew n names m.S (fun k => PL.tg m.J k) m.ls (tab n fun k => (PL.oldP n m old keep k).via) (tab n fun k => (PL.oldP n m old keep k).prev) (tab n fun k => (PL.oldP n m old keep k).hops) (tab n (PL.numB m keep)) (PL.relC m keep n)

/-! ### What grows in zzState's loop: seven rows from B on, each filled up to a count of its own -/
structure StR (w : World) (B n a1 a2 a3 a4 a5 a6 a7 : Nat) (m : PL.PM) (old : List Int) (keep : Int) (TV : List Value) (qf : Nat → Nat) (jf : Nat → Option Nat) : Prop where
  lt : Row w (B + 1) 23 (tab n (pre a1 (fun i => TV[i]?.getD (.slice none 0 0)) (.slice none 0 0)))
  lq : Row w (B + 2) 23 (tab n (pre a2 (fun i => slc (qf i) (PL.tg m.S.T i).length) (.slice none 0 0)))
  lj : Row w (B + 3) 23 (tab n (pre a3 (fun i => jval (jf i) (PL.tg m.J i).length) (.slice none 0 0)))
  vi : Row w (B + 4) 3 (nats (tab n (pre a4 (fun i => (PL.oldP n m old keep i).via) 0)))
  pr : Row w (B + 5) 3 (nats (tab n (pre a5 (fun i => (PL.oldP n m old keep i).prev) 0)))
  ho : Row w (B + 6) 3 (nats (tab n (pre a6 (fun i => (PL.oldP n m old keep i).hops) 0)))
  nu : Row w (B + 7) 4 (bools (tab n (pre a7 (PL.numB m keep) false)))
  q1 : ∀ i, i < a2 → B + 8 ≤ qf i ∧ Row w (qf i) 3 (nats ((PL.tg m.S.T i).map fun t => m.S.ct (i, t)))
  j0 : ∀ i, i < a3 → jf i = none → PL.tg m.J i = []
  j1 : ∀ i g, i < a3 → jf i = some g → B + 8 ≤ g ∧ Row w g 3 (nats (PL.tg m.J i))
  ji : ∀ i j g, i < a3 → j < a3 → jf i = some g → jf j = some g → i = j
section
variable {w w' : World} {B n a1 a2 a3 a4 a5 a6 a7 : Nat} {m : PL.PM} {old : List Int} {keep : Int} {TV : List Value} {qf : Nat → Nat} {jf : Nat → Option Nat}
theorem StR.kp (h : StR w B n a1 a2 a3 a4 a5 a6 a7 m old keep TV qf jf) (hk : Kp w.heap.size [] w w') : StR w' B n a1 a2 a3 a4 a5 a6 a7 m old keep TV qf jf :=
  ⟨h.lt.kp hk h.lt.lt (by simp), h.lq.kp hk h.lq.lt (by simp), h.lj.kp hk h.lj.lt (by simp), h.vi.kp hk h.vi.lt (by simp), h.pr.kp hk h.pr.lt (by simp), h.ho.kp hk h.ho.lt (by simp), h.nu.kp hk h.nu.lt (by simp),
    fun i hi => ⟨(h.q1 i hi).1, (h.q1 i hi).2.kp hk (h.q1 i hi).2.lt (by simp)⟩, h.j0, fun i g hi hg => ⟨(h.j1 i g hi hg).1, (h.j1 i g hi hg).2.kp hk (h.j1 i g hi hg).2.lt (by simp)⟩, h.ji⟩
theorem StR.alloc (h : StR w B n a1 a2 a3 a4 a5 a6 a7 m old keep TV qf jf) (o : Obj) : StR (w.alloc o) B n a1 a2 a3 a4 a5 a6 a7 m old keep TV qf jf := h.kp ((Kp.refl _ _ _).alloc (Nat.le_refl _) o)
theorem StR.setLt (h : StR w B n a1 a2 a3 a4 a5 a6 a7 m old keep TV qf jf) (v : Value) (hv : TV[a1]? = some v) : StR (w.setCell ⟨B + 1, a1, none⟩ v) B n (a1 + 1) a2 a3 a4 a5 a6 a7 m old keep TV qf jf :=
  ⟨by have := h.lt.set a1 v; rw [tab_pre' n a1 _ _ v (by rw [hv]; rfl)] at this; exact this, h.lq.setOther (by omega) v, h.lj.setOther (by omega) v, h.vi.setOther (by omega) v, h.pr.setOther (by omega) v, h.ho.setOther (by omega) v, h.nu.setOther (by omega) v,
    fun i hi => ⟨(h.q1 i hi).1, (h.q1 i hi).2.setOther (by have := (h.q1 i hi).1; omega) v⟩, h.j0, fun i g hi hg => ⟨(h.j1 i g hi hg).1, (h.j1 i g hi hg).2.setOther (by have := (h.j1 i g hi hg).1; omega) v⟩, h.ji⟩
theorem tab_upd_ne {α β : Type} (n k : Nat) (f : Nat → α) (z : β) (F : Nat → α → β) (x : α) : tab n (pre k (fun i => F i (f i)) z) = tab n (pre k (fun i => F i (upd f k x i)) z) := by
  have : pre k (fun i => F i (f i)) z = pre k (fun i => F i (upd f k x i)) z := by
    funext i
    unfold pre upd
    by_cases hi : i < k
    · rw [if_pos hi, if_pos hi]; show F i (f i) = F i (if i = k then x else f i); rw [if_neg (by omega)]
    · rw [if_neg hi, if_neg hi]
  rw [this]
theorem StR.setLq (h : StR w B n a1 a2 a3 a4 a5 a6 a7 m old keep TV qf jf) (g : Nat) (hg : B + 8 ≤ g) (hr : Row w g 3 (nats ((PL.tg m.S.T a2).map fun t => m.S.ct (a2, t)))) : StR (w.setCell ⟨B + 2, a2, none⟩ (slc g (PL.tg m.S.T a2).length)) B n a1 (a2 + 1) a3 a4 a5 a6 a7 m old keep TV (upd qf a2 g) jf := by
  refine ⟨h.lt.setOther (by omega) _, ?_, h.lj.setOther (by omega) _, h.vi.setOther (by omega) _, h.pr.setOther (by omega) _, h.ho.setOther (by omega) _, h.nu.setOther (by omega) _, fun i hi => ?_, h.j0, fun i g hi hg => ⟨(h.j1 i g hi hg).1, (h.j1 i g hi hg).2.setOther (by have := (h.j1 i g hi hg).1; omega) _⟩, h.ji⟩
  · have h1 := h.lq
    rw [tab_upd_ne n a2 qf _ (fun i q => slc q (PL.tg m.S.T i).length) g] at h1
    have h2 := h1.set a2 (slc g (PL.tg m.S.T a2).length)
    rw [tab_pre' n a2 (fun i => slc (upd qf a2 g i) (PL.tg m.S.T i).length) (.slice none 0 0) (slc g (PL.tg m.S.T a2).length) (by simp only [upd_same])] at h2
    exact h2
  · by_cases e : i = a2
    · subst e; rw [upd_same]; exact ⟨hg, hr.setOther (by omega) _⟩
    · rw [upd_other _ _ _ _ e]
      have h1 := h.q1 i (by omega)
      exact ⟨h1.1, h1.2.setOther (by omega) _⟩
theorem StR.setLj (h : StR w B n a1 a2 a3 a4 a5 a6 a7 m old keep TV qf jf) (g : Nat) (hg : B + 8 ≤ g) (hnew : ∀ i q, i < a3 → jf i = some q → q ≠ g) (hr : Row w g 3 (nats (PL.tg m.J a3))) : StR (w.setCell ⟨B + 3, a3, none⟩ (slc g (PL.tg m.J a3).length)) B n a1 a2 (a3 + 1) a4 a5 a6 a7 m old keep TV qf (upd jf a3 (some g)) := by
  refine ⟨h.lt.setOther (by omega) _, h.lq.setOther (by omega) _, ?_, h.vi.setOther (by omega) _, h.pr.setOther (by omega) _, h.ho.setOther (by omega) _, h.nu.setOther (by omega) _, fun i hi => ⟨(h.q1 i hi).1, (h.q1 i hi).2.setOther (by have := (h.q1 i hi).1; omega) _⟩, fun i hi hn => ?_, fun i q hi hq => ?_, fun i j q hi hj h1 h2 => ?_⟩
  · have h1 := h.lj
    rw [tab_upd_ne n a3 jf _ (fun i q => jval q (PL.tg m.J i).length) (some g)] at h1
    have h2 := h1.set a3 (slc g (PL.tg m.J a3).length)
    rw [tab_pre' n a3 (fun i => jval (upd jf a3 (some g) i) (PL.tg m.J i).length) (.slice none 0 0) (slc g (PL.tg m.J a3).length) (by simp only [upd_same, jval])] at h2
    exact h2
  · by_cases e : i = a3
    · subst e; rw [upd_same] at hn; cases hn
    · rw [upd_other _ _ _ _ e] at hn; exact h.j0 i (by omega) hn
  · by_cases e : i = a3
    · subst e; rw [upd_same] at hq; cases hq; exact ⟨hg, hr.setOther (by omega) _⟩
    · rw [upd_other _ _ _ _ e] at hq
      have h1 := h.j1 i q (by omega) hq
      exact ⟨h1.1, h1.2.setOther (by omega) _⟩
  · by_cases e : i = a3
    · subst e
      rw [upd_same] at h1; cases h1
      by_cases e' : j = i
      · exact e'.symm
      · rw [upd_other _ _ _ _ e'] at h2
        exact absurd rfl (hnew j g (by omega) h2)
    · rw [upd_other _ _ _ _ e] at h1
      by_cases e' : j = a3
      · subst e'
        rw [upd_same] at h2; cases h2
        exact absurd rfl (hnew i g (by omega) h1)
      · rw [upd_other _ _ _ _ e'] at h2
        exact h.ji i j q (by omega) (by omega) h1 h2
theorem StR.stayLj (h : StR w B n a1 a2 a3 a4 a5 a6 a7 m old keep TV qf jf) (he : PL.tg m.J a3 = []) : StR w B n a1 a2 (a3 + 1) a4 a5 a6 a7 m old keep TV qf (upd jf a3 none) := by
  refine ⟨h.lt, h.lq, ?_, h.vi, h.pr, h.ho, h.nu, h.q1, fun i hi hn => ?_, fun i q hi hq => ?_, fun i j q hi hj h1 h2 => ?_⟩
  · have h1 := h.lj
    rw [tab_upd_ne n a3 jf _ (fun i q => jval q (PL.tg m.J i).length) none, tab_stay n a3 (fun i => jval (upd jf a3 none i) (PL.tg m.J i).length) _ (by simp only [upd_same, jval])] at h1
    exact h1
  · by_cases e : i = a3
    · rw [e]; exact he
    · rw [upd_other _ _ _ _ e] at hn; exact h.j0 i (by omega) hn
  · by_cases e : i = a3
    · subst e; rw [upd_same] at hq; cases hq
    · rw [upd_other _ _ _ _ e] at hq; exact h.j1 i q (by omega) hq
  · by_cases e : i = a3
    · subst e; rw [upd_same] at h1; cases h1
    · by_cases e' : j = a3
      · subst e'; rw [upd_same] at h2; cases h2
      · rw [upd_other _ _ _ _ e] at h1; rw [upd_other _ _ _ _ e'] at h2
        exact h.ji i j q (by omega) (by omega) h1 h2
theorem StR.setVi (h : StR w B n a1 a2 a3 a4 a5 a6 a7 m old keep TV qf jf) (x : Nat) (hx : x = (PL.oldP n m old keep a4).via) : StR (w.setCell ⟨B + 4, a4, none⟩ (.int .i64 (x : Int))) B n a1 a2 a3 (a4 + 1) a5 a6 a7 m old keep TV qf jf :=
  ⟨h.lt.setOther (by omega) _, h.lq.setOther (by omega) _, h.lj.setOther (by omega) _, by have := h.vi.set a4 (.int .i64 (x : Int)); rw [nats_set, tab_pre' n a4 _ _ x hx] at this; exact this, h.pr.setOther (by omega) _, h.ho.setOther (by omega) _, h.nu.setOther (by omega) _,
    fun i hi => ⟨(h.q1 i hi).1, (h.q1 i hi).2.setOther (by have := (h.q1 i hi).1; omega) _⟩, h.j0, fun i g hi hg => ⟨(h.j1 i g hi hg).1, (h.j1 i g hi hg).2.setOther (by have := (h.j1 i g hi hg).1; omega) _⟩, h.ji⟩
theorem StR.setPr (h : StR w B n a1 a2 a3 a4 a5 a6 a7 m old keep TV qf jf) (x : Nat) (hx : x = (PL.oldP n m old keep a5).prev) : StR (w.setCell ⟨B + 5, a5, none⟩ (.int .i64 (x : Int))) B n a1 a2 a3 a4 (a5 + 1) a6 a7 m old keep TV qf jf :=
  ⟨h.lt.setOther (by omega) _, h.lq.setOther (by omega) _, h.lj.setOther (by omega) _, h.vi.setOther (by omega) _, by have := h.pr.set a5 (.int .i64 (x : Int)); rw [nats_set, tab_pre' n a5 _ _ x hx] at this; exact this, h.ho.setOther (by omega) _, h.nu.setOther (by omega) _,
    fun i hi => ⟨(h.q1 i hi).1, (h.q1 i hi).2.setOther (by have := (h.q1 i hi).1; omega) _⟩, h.j0, fun i g hi hg => ⟨(h.j1 i g hi hg).1, (h.j1 i g hi hg).2.setOther (by have := (h.j1 i g hi hg).1; omega) _⟩, h.ji⟩
theorem StR.setHo (h : StR w B n a1 a2 a3 a4 a5 a6 a7 m old keep TV qf jf) (x : Nat) (hx : x = (PL.oldP n m old keep a6).hops) : StR (w.setCell ⟨B + 6, a6, none⟩ (.int .i64 (x : Int))) B n a1 a2 a3 a4 a5 (a6 + 1) a7 m old keep TV qf jf :=
  ⟨h.lt.setOther (by omega) _, h.lq.setOther (by omega) _, h.lj.setOther (by omega) _, h.vi.setOther (by omega) _, h.pr.setOther (by omega) _, by have := h.ho.set a6 (.int .i64 (x : Int)); rw [nats_set, tab_pre' n a6 _ _ x hx] at this; exact this, h.nu.setOther (by omega) _,
    fun i hi => ⟨(h.q1 i hi).1, (h.q1 i hi).2.setOther (by have := (h.q1 i hi).1; omega) _⟩, h.j0, fun i g hi hg => ⟨(h.j1 i g hi hg).1, (h.j1 i g hi hg).2.setOther (by have := (h.j1 i g hi hg).1; omega) _⟩, h.ji⟩
theorem StR.setNu (h : StR w B n a1 a2 a3 a4 a5 a6 a7 m old keep TV qf jf) (x : Bool) (hx : x = PL.numB m keep a7) : StR (w.setCell ⟨B + 7, a7, none⟩ (.bool x)) B n a1 a2 a3 a4 a5 a6 (a7 + 1) m old keep TV qf jf :=
  ⟨h.lt.setOther (by omega) _, h.lq.setOther (by omega) _, h.lj.setOther (by omega) _, h.vi.setOther (by omega) _, h.pr.setOther (by omega) _, h.ho.setOther (by omega) _, by have := h.nu.set a7 (.bool x); rw [bools_set, tab_pre' n a7 _ _ x hx] at this; exact this,
    fun i hi => ⟨(h.q1 i hi).1, (h.q1 i hi).2.setOther (by have := (h.q1 i hi).1; omega) _⟩, h.j0, fun i g hi hg => ⟨(h.j1 i g hi hg).1, (h.j1 i g hi hg).2.setOther (by have := (h.j1 i g hi hg).1; omega) _⟩, h.ji⟩
theorem StR.stayP {k : Nat} (h : StR w B n a1 a2 a3 k k k a7 m old keep TV qf jf) (he : PL.oldP n m old keep k = pt0) : StR w B n a1 a2 a3 (k + 1) (k + 1) (k + 1) a7 m old keep TV qf jf :=
  ⟨h.lt, h.lq, h.lj, by have := h.vi; rw [tab_stay n k _ _ (by rw [he]; rfl)] at this; exact this, by have := h.pr; rw [tab_stay n k _ _ (by rw [he]; rfl)] at this; exact this, by have := h.ho; rw [tab_stay n k _ _ (by rw [he]; rfl)] at this; exact this, h.nu, h.q1, h.j0, h.j1, h.ji⟩
end
theorem map_tab {l : List Nat} (f : Nat → Nat) : l.map f = tab l.length (fun i => f (l[i]?.getD 0)) := by
  apply List.ext_getElem?
  intro i
  by_cases h : i < l.length
  · rw [tab_at _ _ _ h, List.getElem?_map, List.getElem?_eq_getElem h]; rfl
  · rw [List.getElem?_eq_none (by simp; omega), List.getElem?_eq_none (by rw [tab_len]; omega)]
end Go.Proofs.Qxb6600010a
