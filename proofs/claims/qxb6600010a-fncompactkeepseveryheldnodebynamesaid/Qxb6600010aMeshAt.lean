/-
  THE MESH: what zzBuild works out, as plain lists and as it lies in memory.
-/
import Derived.Test.Qxb6600010aJn
namespace Go.Proofs.Qxb6600010a
open Go.RowKit
set_option linter.unusedVariables false
set_option linter.unusedSimpArgs false

namespace PL
/-- What zzBuild works out. -/
structure PM where
  rk : List Nat
  S : MS
  J : List (List Nat)
  ls : List Nat
def hdB (T : List (List Nat)) (ls : List Nat) (k : Nat) : Bool := decide (k = 0) || decide (0 < (tg T k).length) || decide (0 < ls[k]?.getD 0)
def hds (T : List (List Nat)) (ls : List Nat) (n : Nat) : List Bool := (List.range n).map (hdB T ls)
def hc (T : List (List Nat)) (ls : List Nat) (n : Nat) : Nat := ((List.range n).filter (hdB T ls)).length
theorem hds_succ (T : List (List Nat)) (ls : List Nat) (n : Nat) : hds T ls (n + 1) = hds T ls n ++ [hdB T ls n] := by simp [hds, List.range_succ]
theorem hds_len (T : List (List Nat)) (ls : List Nat) (n : Nat) : (hds T ls n).length = n := by simp [hds]
theorem hds_at (T : List (List Nat)) (ls : List Nat) (n k : Nat) (h : k < n) : (hds T ls n)[k]? = some (hdB T ls k) := by simp [hds, h]
theorem hc_succ (T : List (List Nat)) (ls : List Nat) (n : Nat) : hc T ls (n + 1) = hc T ls n + if hdB T ls n then 1 else 0 := by
  unfold hc
  rw [List.range_succ, List.filter_append, List.length_append]
  by_cases h : hdB T ls n <;> simp [h]
theorem hc_le (T : List (List Nat)) (ls : List Nat) (n : Nat) : hc T ls n ≤ n := by
  unfold hc
  have := List.length_filter_le (hdB T ls) (List.range n)
  simpa using this

/-- What holds of it. -/
structure PMesh (names : List ByteArray) (n : Nat) (m : PM) : Prop where
  n0 : 0 < n
  n1 : n ≤ 65536
  nl : names.length = n
  ranked : Ranked names m.rk
  inv : MInv n 65536 m.S
  jl : m.J.length = n
  jp : ∀ k, k < n → (tg m.J k).Perm ((tg m.S.T k).filter fun b => decide (0 < m.S.ct (b, k)))
  js : ∀ k, k < n → (tg m.J k).Pairwise (fun a b => rankLe m.rk a b = true)
  ll : m.ls.length = n
  lp : ∀ k, k < n → ∀ b, b ∈ tg m.S.T k → 0 < m.ls[b]?.getD 0
  lsm : ∀ k : Nat, m.ls[k]?.getD 0 ≤ 4294967296
end PL

/-- Where it lies. -/
structure MB where
  rb : Nat
  tb : Nat
  cb : Nat
  jb : Nat
  lb : Nat
  hb : Nat
  base : Nat
  c : Nat
  TV : List Value
  JV : List Value
/-- A slice over a whole block. -/
def slc (b n : Nat) : Value := .slice (some ⟨b, 0, none⟩) n n
def meshV (n : Nat) (b : MB) (hc : Nat) : Value := .agg #[.int .i64 (n : Int), slc b.rb n, slc b.tb n, .map (some b.cb), slc b.jb n, slc b.lb n, slc b.hb n, .int .i64 (hc : Int)]
structure MeshAt (w : World) (n : Nat) (b : MB) (m : PL.PM) : Prop where
  rank : Row w b.rb 3 (nats m.rk)
  tg : TgAt w b.base b.tb b.cb n b.c m.S.T m.S.ct b.TV
  jn : JnAt w b.jb n n b.base m.J b.JV
  lst : Row w b.lb 3 (nats m.ls)
  held : Row w b.hb 4 (bools (PL.hds m.S.T m.ls n))

theorem JnAt.kp {w w' : World} {jb n a base : Nat} {J : List (List Nat)} {JV : List Value} (h : JnAt w jb n a base J JV) (hk : Kp w.heap.size [] w w') : JnAt w' jb n a base J JV :=
  ⟨h.row.kp hk h.row.lt (by simp), h.len, h.jl, fun k v h1 h2 => owns_kp (h.own k v h1 h2) hk (fun q hq => ⟨(owns_block (h.own k v h1 h2) q hq).2.1, by simp⟩), h.nil⟩
theorem MeshAt.kp {w w' : World} {n : Nat} {b : MB} {m : PL.PM} (h : MeshAt w n b m) (hk : Kp w.heap.size [] w w') : MeshAt w' n b m :=
  ⟨h.rank.kp hk h.rank.lt (by simp), h.tg.kp hk rfl (by simp) (by simp) (by simp), h.jn.kp hk, h.lst.kp hk h.lst.lt (by simp), h.held.kp hk h.held.lt (by simp)⟩

/-! ### A joined list while it grows -/
structure GrAt (wa w : World) (jb lb a Ba : Nat) (JV : List Value) (v : Value) (L : List Nat) : Prop where
  row : Row w jb 23 (JV.set a v)
  own : w.ownsRow Ba 3 1 v L.length (nats L)
  kp : Kp Ba [lb, jb] wa w
theorem GrAt.append {wa w W1 w1 : World} {jb lb a Ba g cap b : Nat} {JV : List Value} {v : Value} {L : List Nat} (h : GrAt wa w jb lb a Ba JV v L) (hjb : jb < Ba) (hba : Ba ≤ w.heap.size) (hW : w.grownBy W1 none) (hgr : W1.grownBy w1 v.ownBlock)
    (hown : w1.ownsRow Ba 3 1 (.slice (some ⟨g, 0, none⟩) (L.length + 1) cap) (L.length + 1) (nats L ++ [.int .i64 (b : Int)])) :
    GrAt wa (w1.setCell ⟨jb, a, none⟩ (.slice (some ⟨g, 0, none⟩) (L.length + 1) cap)) jb lb a Ba JV (.slice (some ⟨g, 0, none⟩) (L.length + 1) cap) (L ++ [b]) := by
  refine ⟨?_, ?_, ?_⟩
  · have h1 := ((h.row.kept hW (by simp)).kept hgr (fun e => by have := (owns_block h.own jb e.symm).1; omega)).set a (.slice (some ⟨g, 0, none⟩) (L.length + 1) cap)
    rw [List.set_set] at h1
    exact h1
  · rw [nats_snoc, List.length_append]
    exact ownsRow_setCell_below hown (a := ⟨jb, a, none⟩) (by show jb < Ba; exact hjb) _
  · exact ((h.kp.grown hW hba (by simp)).grown hgr (by have := hW.size; omega) (fun k hk => .inl (owns_block h.own k hk).1)).setCell (.inr (by simp)) _
theorem GrAt.lister {wa w : World} {jb lb a Ba o : Nat} {JV : List Value} {v : Value} {L : List Nat} (h : GrAt wa w jb lb a Ba JV v L) (hlb : lb < Ba) (hne : lb ≠ jb) (x : Value) :
    GrAt wa (w.setCell ⟨lb, o, none⟩ x) jb lb a Ba JV v L :=
  ⟨h.row.setOther hne.symm _, ownsRow_setCell_below h.own (a := ⟨lb, o, none⟩) (by show lb < Ba; exact hlb) _, h.kp.setCell (.inr (by simp)) _⟩
theorem GrAt.drew {wa w : World} {jb lb a Ba : Nat} {JV : List Value} {v : Value} {L : List Nat} (h : GrAt wa w jb lb a Ba JV v L) : GrAt wa w.drew jb lb a Ba JV v L :=
  ⟨h.row, h.own, h.kp.drew⟩

end Go.Proofs.Qxb6600010a
