/-
  FOR THE WALK of zzBuild.
-/
import Derived.Test.Qxb6600010aBase
import Derived.Test.Qxb6600010aSmall
import Derived.Test.Qxb6600010aMesh
import Derived.Test.Qxb6600010aTg
import Derived.Test.Qxb6600010aMeshAt
import Derived.Test.Qxb6600010aJn
import Derived.Test.Qxb6600010aSortName
import Derived.Test.Qxb6600010aSortRank
import Derived.BigRegion
import Derived.Deep.RegionLaw
import Derived.Deep.DrawnRows
import Derived.Deep.RegionHeld3
namespace Go.Proofs.Qxb6600010a
open Go.RowKit
set_option linter.unusedVariables false
set_option linter.unusedSimpArgs false
attribute [local go_sem ↓] Go.wp_at_zero Go.wp_at_succ

theorem range_part (n j : Nat) (h : j < n) : (nats (List.range j) ++ List.replicate (n - j) (Value.int .i64 0)).set j (.int .i64 (j : Int)) = nats (List.range (j + 1)) ++ List.replicate (n - (j + 1)) (Value.int .i64 0) := by
  have h1 : (nats (List.range j)).length = j := by rw [nats_len]; simp
  rw [List.set_append_right _ _ (by omega), h1, Nat.sub_self]
  rw [show n - j = (n - (j + 1)) + 1 by omega, List.replicate_succ, List.set_cons_zero, List.range_succ, nats_snoc]
  simp

/-- The struct's eight cells as zzBuild's variable m holds them. -/
def mcells (n : Nat) (rv tv cv jv lv hv : Value) (hc : Int) : List Value := [.int .i64 n, rv, tv, cv, jv, lv, hv, .int .i64 hc]

theorem size_setCell (w : World) (a : Addr) (v : Value) : (w.setCell a v).heap.size = w.heap.size := by simp
theorem nodup_inj {l : List Nat} (h : l.Nodup) (i j : Nat) (hi : i < l.length) (hj : j < l.length) (e : l[i] = l[j]) : i = j := by
  rcases Nat.lt_trichotomy i j with h1 | h1 | h1
  · exact absurd e (List.pairwise_iff_getElem.1 h i j hi hj h1)
  · exact h1
  · exact absurd e.symm (List.pairwise_iff_getElem.1 h j i hj hi h1)
theorem row_set8 {W : World} {b : Nat} {e : TypeId} {r0 r1 r2 r3 r4 r5 r6 r7 : Value} (h : Row W b e [r0, r1, r2, r3, r4, r5, r6, r7]) (c0 c1 c2 c3 c4 c5 c6 c7 : Value) :
    Row ((((((((W.setCell ⟨b, 0, none⟩ c0).setCell ⟨b, 1, none⟩ c1).setCell ⟨b, 2, none⟩ c2).setCell ⟨b, 3, none⟩ c3).setCell ⟨b, 4, none⟩ c4).setCell ⟨b, 5, none⟩ c5).setCell ⟨b, 6, none⟩ c6).setCell ⟨b, 7, none⟩ c7) b e [c0, c1, c2, c3, c4, c5, c6, c7] :=
  (((((((h.set 0 c0).set 1 c1).set 2 c2).set 3 c3).set 4 c4).set 5 c5).set 6 c6).set 7 c7
theorem kp_set8 {W w : World} {B : Nat} {S : List Nat} {b : Nat} (h : Kp B S w W) (hb : B ≤ b ∨ b ∈ S) (c0 c1 c2 c3 c4 c5 c6 c7 : Value) :
    Kp B S w ((((((((W.setCell ⟨b, 0, none⟩ c0).setCell ⟨b, 1, none⟩ c1).setCell ⟨b, 2, none⟩ c2).setCell ⟨b, 3, none⟩ c3).setCell ⟨b, 4, none⟩ c4).setCell ⟨b, 5, none⟩ c5).setCell ⟨b, 6, none⟩ c6).setCell ⟨b, 7, none⟩ c7) :=
  (((((((h.setCell hb c0).setCell hb c1).setCell hb c2).setCell hb c3).setCell hb c4).setCell hb c5).setCell hb c6).setCell hb c7
theorem tg_snoc (J : List (List Nat)) (L : List Nat) (k : Nat) : PL.tg (J ++ [L]) k = if k = J.length then L else PL.tg J k := by
  unfold PL.tg
  by_cases e : k = J.length
  · subst e; simp
  · rw [if_neg e]
    by_cases h : k < J.length
    · rw [List.getElem?_append_left h]
    · rw [List.getElem?_eq_none (by simp; omega), List.getElem?_eq_none (by omega)]
theorem hds_part (T : List (List Nat)) (ls : List Nat) (n k : Nat) (h : k < n) : (bools (PL.hds T ls k) ++ List.replicate (n - k) (Value.bool false)).set k (.bool (PL.hdB T ls k)) = bools (PL.hds T ls (k + 1)) ++ List.replicate (n - (k + 1)) (Value.bool false) := by
  have h1 : (bools (PL.hds T ls k)).length = k := by rw [bools_len, PL.hds_len]
  rw [List.set_append_right _ _ (by omega), h1, Nat.sub_self]
  rw [show n - k = (n - (k + 1)) + 1 by omega, List.replicate_succ, List.set_cons_zero, PL.hds_succ]
  simp [bools]
theorem JnAt.kpS {w w' : World} {jb n a base : Nat} {S : List Nat} {J : List (List Nat)} {JV : List Value} (h : JnAt w jb n a base J JV) (hk : Kp w.heap.size S w w') (h1 : jb ∉ S) (h2 : ∀ q, q ∈ S → q < base) : JnAt w' jb n a base J JV :=
  ⟨h.row.kp hk h.row.lt h1, h.len, h.jl, fun k v h3 h4 => owns_kp (h.own k v h3 h4) hk (fun q hq => ⟨(owns_block (h.own k v h3 h4) q hq).2.1, fun hm => by have := h2 q hm; have := (owns_block (h.own k v h3 h4) q hq).1; omega⟩), h.nil⟩
theorem JnAt.base {w : World} {jb n a base base' : Nat} {J : List (List Nat)} {JV : List Value} (h : JnAt w jb n a base J JV) (hb : base' ≤ base) : JnAt w jb n a base' J JV :=
  ⟨h.row, h.len, h.jl, fun k v h1 h2 => owns_base (h.own k v h1 h2) hb, h.nil⟩
/-- What zzBuild leaves. -/
def BuildPost (w : World) (names : List ByteArray) (n : Nat) (e : Ending) (w' : World) : Prop :=
  (∃ v, e = .returned (.tuple #[v, .bool false]) ∧ Kp w.heap.size [] w w') ∨
  (∃ (b : MB) (m : PL.PM), e = .returned (.tuple #[meshV n b (PL.hc m.S.T m.ls n), .bool true]) ∧ PL.PMesh names n m ∧ MeshAt w' n b m ∧ Kp w.heap.size [] w w')
theorem BuildPost.no {w : World} {names : List ByteArray} {n B0 : Nat} {w' : World} (v : Value) (hB : w.heap.size = B0) (h : Kp B0 [] w w') : BuildPost w names n (.returned (.tuple #[v, .bool false])) w' := .inl ⟨v, rfl, hB ▸ h⟩

/-- A last statement, as one that is followed. -/
theorem wp_last {P : Program} {c : Code} {Q : Exit → Act → World → Prop} {a : Act} {w : World} (h : ∀ K : Act → World → Prop, (∀ a w, Q .normal a w → K a w) → Code.wp P c (Exit.then K Q) a w) : Code.wp P c Q a w := by
  refine Code.wp_mono ?_ (h (fun a w => Q .normal a w) (fun _ _ h => h))
  intro e a w hq
  cases e <;> exact hq

/-- The bodies of all loops in a code, in its order. -/
def loopsOf : Code → List Code
  | .loop c => c :: loopsOf c
  | .seq a b => loopsOf a ++ loopsOf b
  | .block _ c => loopsOf c
  | .scope c => loopsOf c
  | .cond _ a b => loopsOf a ++ loopsOf b
  | _ => []
/-- The body of loop number k of a function. -/
def loopNo (k : Nat) (f : Func) : Code := match f.body with
  | some c => ((loopsOf c)[k]?).getD .skip
  | none => .skip

/-- What the loop over the joined lists leaves. -/
def Post5 (S : PL.MS) (rk : List Nat) (n lb : Nat) (w5 w' : World) : Prop :=
  ∃ (ls : List Nat) (J : List (List Nat)) (JV : List Value), LsOK S.T n n 0 ls ∧ Row w' lb 3 (nats ls) ∧ JnAt w' (lb + 1) n n (lb + 2) J JV ∧ (∀ k, k < n → (PL.tg J k).Perm (flt S.T S.ct k (PL.tg S.T k).length) ∧ (PL.tg J k).Pairwise (fun x y => PL.rankLe rk x y = true)) ∧ Kp (lb + 2) [lb, lb + 1] w5 w'

end Go.Proofs.Qxb6600010a
