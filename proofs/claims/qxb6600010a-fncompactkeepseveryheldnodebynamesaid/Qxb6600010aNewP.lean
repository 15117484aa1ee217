/-
  WHAT ZZNew IS HANDED AND WHAT IT MAKES.
-/
import Derived.Test.Qxb6600010aPs
import Derived.BigRegion
import Derived.Deep.RegionLaw
import Derived.Deep.DrawnRows
namespace Go.Proofs.Qxb6600010a
open Go.RowKit
set_option linter.unusedVariables false
set_option linter.unusedSimpArgs false
attribute [local go_sem ↓] Go.wp_at_zero Go.wp_at_succ

/-! ### What grows in ZZNew's loop -/
structure ZAt (w : World) (nb pb mb n : Nat) (nm : Nat → ByteArray) (lk jv : Nat → Value) (ls : Nat → Nat) (P : Nat → PT) (nc : Nat) (num : ByteArray → Option Int) : Prop where
  nodes : ∃ cs, Row w nb 79 cs ∧ NAt cs n nm lk jv ls
  paths : ∃ cp, Row w pb 70 cp ∧ PAt cp n P ∧ cp.length = n * 3
  num : MapAt kS w 9 mb nc num
section
variable {w w' : World} {nb pb mb n k nc : Nat} {nm : Nat → ByteArray} {lk jv : Nat → Value} {ls : Nat → Nat} {P : Nat → PT} {num : ByteArray → Option Int}
theorem ZAt.grown {row : Option Nat} (h : ZAt w nb pb mb n nm lk jv ls P nc num) (hg : w.grownBy w' row) (h1 : some nb ≠ row) (h2 : some pb ≠ row) (h3 : some mb ≠ row) : ZAt w' nb pb mb n nm lk jv ls P nc num := by
  obtain ⟨cs, a1, a2⟩ := h.nodes
  obtain ⟨cp, a3, a4⟩ := h.paths
  exact ⟨⟨cs, a1.kept hg h1, a2⟩, ⟨cp, a3.kept hg h2, a4⟩, h.num.kept hg h3⟩
theorem ZAt.kp {Bx : Nat} {S : List Nat} (h : ZAt w nb pb mb n nm lk jv ls P nc num) (hk : Kp Bx S w w') (h1 : nb < Bx) (h2 : pb < Bx) (h3 : mb < Bx) (g1 : nb ∉ S) (g2 : pb ∉ S) (g3 : mb ∉ S) : ZAt w' nb pb mb n nm lk jv ls P nc num := by
  obtain ⟨cs, a1, a2⟩ := h.nodes
  obtain ⟨cp, a3, a4⟩ := h.paths
  exact ⟨⟨cs, a1.kp hk h1 g1, a2⟩, ⟨cp, a3.kp hk h2 g2, a4⟩, h.num.kp hk h3 g3⟩
theorem ZAt.drew (h : ZAt w nb pb mb n nm lk jv ls P nc num) : ZAt w.drew nb pb mb n nm lk jv ls P nc num := h.grown (grown_drew (grown_refl w none)) (by simp) (by simp) (by simp)
theorem ZAt.node {i : Nat} {v : Value} {nm' : Nat → ByteArray} {lk' jv' : Nat → Value} {ls' : Nat → Nat} (h : ZAt w nb pb mb n nm lk jv ls P nc num) (h1 : nb ≠ pb) (h2 : nb ≠ mb)
    (hs : ∀ cs, NAt cs n nm lk jv ls → NAt (cs.set i v) n nm' lk' jv' ls') : ZAt (w.setCell ⟨nb, i, none⟩ v) nb pb mb n nm' lk' jv' ls' P nc num := by
  obtain ⟨cs, a1, a2⟩ := h.nodes
  obtain ⟨cp, a3, a4⟩ := h.paths
  exact ⟨⟨_, a1.set i v, hs cs a2⟩, ⟨cp, a3.setOther h1.symm v, a4⟩, h.num.kept (grown_set w nb i v) (by simpa using h2.symm)⟩
theorem ZAt.path (h : ZAt w nb pb mb n nm lk jv ls P nc num) (h1 : nb ≠ pb) (h2 : pb ≠ mb) (hk : k < n) (p : PT) :
    ZAt (((w.setCell ⟨pb, k * 3, none⟩ (.int .i64 (p.via : Int))).setCell ⟨pb, k * 3 + 1, none⟩ (.int .i64 (p.prev : Int))).setCell ⟨pb, k * 3 + 2, none⟩ (.int .i64 (p.hops : Int))) nb pb mb n nm lk jv ls (upd P k p) nc num := by
  obtain ⟨cs, a1, a2⟩ := h.nodes
  obtain ⟨cp, a3, a4, a5⟩ := h.paths
  exact ⟨⟨cs, ((a1.setOther h1 _).setOther h1 _).setOther h1 _, a2⟩, ⟨_, ((a3.set _ _).set _ _).set _ _, a4.set hk p, by simpa using a5⟩,
    ((h.num.kept (grown_set _ _ _ _) (by simpa using h2.symm)).kept (grown_set _ _ _ _) (by simpa using h2.symm)).kept (grown_set _ _ _ _) (by simpa using h2.symm)⟩
end
/-- f below k, z from k on. -/
def pre {α : Type} (k : Nat) (f : Nat → α) (z : α) : Nat → α := fun i => if i < k then f i else z
theorem pre_upd {α : Type} (k : Nat) (f : Nat → α) (z : α) : upd (pre k f z) k (f k) = pre (k + 1) f z := by
  funext i
  unfold upd pre
  by_cases e : i = k
  · subst e; simp
  · rw [if_neg e]
    by_cases h : i < k
    · rw [if_pos h, if_pos (by omega)]
    · rw [if_neg h, if_neg (by omega)]
theorem pre_zero {α : Type} (f : Nat → α) (z : α) : pre 0 f z = fun _ => z := by funext i; simp [pre]

namespace PL
/-- The numbers given to the first j nodes. -/
def numOf (names : List ByteArray) (nu : Nat → Bool) : Nat → ByteArray → Option Int
  | 0 => fun _ => none
  | j + 1 => if nu j then fun s => if s = names[j]?.getD ⟨#[]⟩ then some (j : Int) else numOf names nu j s else numOf names nu j
def ncOf (nu : Nat → Bool) (j : Nat) : Nat := ((List.range j).filter nu).length
theorem ncOf_succ (nu : Nat → Bool) (j : Nat) : ncOf nu (j + 1) = ncOf nu j + if nu j then 1 else 0 := by
  unfold ncOf
  rw [List.range_succ, List.filter_append, List.length_append]
  by_cases h : nu j <;> simp [h]
theorem ncOf_le (nu : Nat → Bool) (j : Nat) : ncOf nu j ≤ j := by
  unfold ncOf
  have := List.length_filter_le nu (List.range j)
  simpa using this
theorem numOf_some (names : List ByteArray) (nu : Nat → Bool) (j : Nat) (s : ByteArray) (x : Int) (h : numOf names nu j s = some x) : ∃ k, k < j ∧ nu k = true ∧ s = names[k]?.getD ⟨#[]⟩ ∧ x = (k : Int) := by
  induction j with
  | zero => simp [numOf] at h
  | succ j ih =>
    unfold numOf at h
    by_cases hn : nu j = true
    · rw [if_pos hn] at h
      by_cases e : s = names[j]?.getD ⟨#[]⟩
      · simp only [if_pos e, Option.some.injEq] at h
        exact ⟨j, by omega, hn, e, h.symm⟩
      · simp only [if_neg e] at h
        obtain ⟨k, h1, h2⟩ := ih h
        exact ⟨k, by omega, h2⟩
    · rw [if_neg hn] at h
      obtain ⟨k, h1, h2⟩ := ih h
      exact ⟨k, by omega, h2⟩
/-- Names are apart. -/
def Apart (names : List ByteArray) (n : Nat) : Prop := ∀ i j, i < n → j < n → names[i]?.getD ⟨#[]⟩ = names[j]?.getD ⟨#[]⟩ → i = j
theorem numOf_at {names : List ByteArray} {n : Nat} (ha : Apart names n) (nu : Nat → Bool) (j k : Nat) (hk : k < n) (hj : j ≤ n) : numOf names nu j (names[k]?.getD ⟨#[]⟩) = if k < j ∧ nu k = true then some (k : Int) else none := by
  cases hx : numOf names nu j (names[k]?.getD ⟨#[]⟩) with
  | some x =>
    obtain ⟨i, h1, h2, h3, h4⟩ := numOf_some names nu j _ x hx
    have e : k = i := ha k i hk (by omega) h3
    subst e
    rw [if_pos ⟨h1, h2⟩, h4]
  | none =>
    rw [if_neg]
    rintro ⟨h1, h2⟩
    have : ∀ j, k < j → j ≤ n → numOf names nu j (names[k]?.getD ⟨#[]⟩) ≠ none := by
      intro j
      induction j with
      | zero => intro h; omega
      | succ j ih =>
        intro hkj hjn
        unfold numOf
        by_cases hn : nu j = true
        · rw [if_pos hn]
          by_cases e : names[k]?.getD ⟨#[]⟩ = names[j]?.getD ⟨#[]⟩
          · simp [e]
          · simp only [if_neg e]
            have : k ≠ j := fun e' => e (by rw [e'])
            exact ih (by omega) (by omega)
        · rw [if_neg hn]
          have : k ≠ j := fun e' => hn (e' ▸ h2)
          exact ih (by omega) (by omega)
    exact this j h1 hj hx
end PL

/-- What ZZNew is handed. -/
structure NewIn (w : World) (n : Nat) (names : List ByteArray) (S : PL.MS) (J : Nat → List Nat) (jf : Nat → Option Nat) (ls vi pr ho : List Nat) (nu : List Bool) (nmb tb qb jb lb vb rb hb ub : Nat) (TV QV JV : List Value) : Prop where
  nms : Row w nmb 9 (strs names)
  nml : names.length = n
  tv : Row w tb 23 TV
  tvl : TV.length = n
  tvo : ∀ (k : Nat) (v : Value), TV[k]? = some v → ∃ base, w.ownsRow base 3 1 v (PL.tg S.T k).length (nats (PL.tg S.T k))
  qv : Row w qb 23 QV
  qvl : QV.length = n
  qvo : ∀ (k : Nat) (v : Value), QV[k]? = some v → ∃ g, v = slc g (PL.tg S.T k).length ∧ Row w g 3 (nats ((PL.tg S.T k).map fun t => S.ct (k, t)))
  jv : Row w jb 23 JV
  jvo : ∀ (k : Nat), k < n → JV[k]? = some (jval (jf k) (J k).length)
  jv0 : ∀ (k : Nat), k < n → jf k = none → J k = []
  jv1 : ∀ (k g : Nat), k < n → jf k = some g → Row w g 3 (nats (J k))
  lsr : Row w lb 3 (nats ls)
  lsl : ls.length = n
  vir : Row w vb 3 (nats vi)
  vil : vi.length = n
  prr : Row w rb 3 (nats pr)
  prl : pr.length = n
  hor : Row w hb 3 (nats ho)
  hol : ho.length = n
  nur : Row w ub 4 (bools nu)
  nul : nu.length = n
def pdNew (n : Nat) (names : List ByteArray) (S : PL.MS) (J : Nat → List Nat) (ls vi pr ho : List Nat) (nu : List Bool) (r : Nat) : PD :=
  ⟨fun k => names[k]?.getD ⟨#[]⟩, fun k t => S.ct (k, t), fun k => (PL.tg S.T k).length, J, fun k => ls[k]?.getD 0, fun k => ⟨vi[k]?.getD 0, pr[k]?.getD 0, ho[k]?.getD 0⟩, PL.numOf names (fun k => nu[k]?.getD false) n, PL.ncOf (fun k => nu[k]?.getD false) n, r⟩

theorem arg_row {w w1 wr : World} {B b : Nat} {e : TypeId} {xs : List Value} (h : Row w b e xs) (hB : w.heap.size = B) (hK1 : Kp B [] w w1) (hK : Kp (B + 4) [B + 2, B + 3, B] w1 wr) : Row wr b e xs := by
  have hl := h.lt
  exact (h.kp hK1 (by omega) (by simp)).kp hK (by omega) (by simp; omega)
theorem run_makeMap_hint {P : Program} {t k v : TypeId} (ht : P.underlying t = some (.map k v)) (ki : IntKind) (x : Int) (w : World) : (Instr.makeMap t (some (.int ki x))).run P w = .ok (.map (some w.heap.size)) (w.alloc (.map #[] 0)) := by
  simp [Instr.makeMap, run_underlying ht, asInt, asIntOf]
theorem nodup_inj2 {l : List Nat} (h : l.Nodup) (i j : Nat) (hi : i < l.length) (hj : j < l.length) (e : l[i] = l[j]) : i = j := by
  rcases Nat.lt_trichotomy i j with h1 | h1 | h1
  · exact absurd e (List.pairwise_iff_getElem.1 h i j hi hj h1)
  · exact h1
  · exact absurd e.symm (List.pairwise_iff_getElem.1 h j i hj hi h1)
theorem upd_id {α : Type} (f : Nat → α) (k : Nat) : upd f k (f k) = f := by
  funext i
  unfold upd
  by_cases e : i = k
  · subst e; simp
  · rw [if_neg e]
theorem pre_upd' {α : Type} (k : Nat) (f : Nat → α) (z v : α) (hv : v = f k) : upd (pre k f z) k v = pre (k + 1) f z := by subst hv; exact pre_upd k f z
theorem pre_lk (k : Nat) (lkf : Nat → Option Nat) (lo : Option Nat) : upd (pre k (fun i => Value.map (lkf i)) (.map none)) k (.map lo) = pre (k + 1) (fun i => Value.map (upd lkf k lo i)) (.map none) := by
  funext i
  unfold upd pre
  by_cases e : i = k
  · subst e; simp
  · rw [if_neg e]
    by_cases h : i < k
    · rw [if_pos h, if_pos (by omega)]; simp [e]
    · rw [if_neg h, if_neg (by omega)]
theorem pre_self {α : Type} (k : Nat) (f : Nat → α) (z : α) : pre k f z k = z := by simp [pre]

end Go.Proofs.Qxb6600010a
