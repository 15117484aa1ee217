/-
  THE WALK of named.
-/
import Derived.Test.Qxb6600010aPs
import Derived.BigRegion
import Derived.Deep.RegionLaw
import Derived.Deep.DrawnRows
import Derived.Deep.LoopGhost
import Derived.Deep.DeepCutAuto
namespace Go.Proofs.Qxb6600010a
open Go.RowKit
set_option linter.unusedVariables false
set_option linter.unusedSimpArgs false
attribute [local go_sem ↓] Go.wp_at_zero Go.wp_at_succ
/-- A Path: its nodes by name. -/
structure NP where
  via : ByteArray
  hops : Nat
  prev : ByteArray
def np0 : NP := ⟨⟨#[]⟩, 0, ⟨#[]⟩⟩
def npV (x : NP) : Value := .agg #[.string x.via, .int .i64 (x.hops : Int), .string x.prev]
def ptV (q : PT) : Value := .agg #[.int .i64 (q.via : Int), .int .i64 (q.prev : Int), .int .i64 (q.hops : Int)]
def nmd (nm : Nat → ByteArray) (q : PT) : NP := if q.hops = 0 then np0 else ⟨nm q.via, q.hops, nm q.prev⟩
theorem row_set3 {W : World} {b : Nat} {e : TypeId} {r0 r1 r2 : Value} (h : Row W b e [r0, r1, r2]) (c0 c1 c2 : Value) :
    Row (((W.setCell ⟨b, 0, none⟩ c0).setCell ⟨b, 1, none⟩ c1).setCell ⟨b, 2, none⟩ c2) b e [c0, c1, c2] := ((h.set 0 c0).set 1 c1).set 2 c2
theorem kp_set3 {W w : World} {B : Nat} {S : List Nat} {b : Nat} (h : Kp B S w W) (hb : B ≤ b ∨ b ∈ S) (c0 c1 c2 : Value) :
    Kp B S w (((W.setCell ⟨b, 0, none⟩ c0).setCell ⟨b, 1, none⟩ c1).setCell ⟨b, 2, none⟩ c2) := ((h.setCell hb c0).setCell hb c1).setCell hb c2

set_option maxHeartbeats 4000000 in
set_option maxRecDepth 100000 in
theorem named_any (w : World) (p n : Nat) (d : PD) (b : PB) (h : PsAt w p n d b) (q : PT) (hq : q.hops = 0 ∨ (q.via < n ∧ q.prev < n)) (hn : n ≤ 65536) (hh : q.hops ≤ 1000000) :
    Calls Try.prog 46 #[.pointer (some ⟨p, 0, none⟩), ptV q] w fun e w' => e = .returned (npV (nmd d.nm q)) ∧ Kp w.heap.size [] w w' := by
  obtain ⟨B, hB⟩ : ∃ B, w.heap.size = B := ⟨_, rfl⟩
  have hpl : p < B := by rw [← hB]; exact h.st.lt
  obtain ⟨cs, hcs, hN⟩ := h.nodes
  have hnl : b.nb < B := by rw [← hB]; exact hcs.lt
  have HB : Hid (w.heap.size = B) := hB
  have HST : Hid (Row w p 75 [slc b.nb n, .map (some b.mb), .int .i64 (d.rel : Int), .slice (some ⟨b.pb, 0, none⟩) n b.pc, b.nx, b.qu]) := h.st
  have HCS : Hid (Row w b.nb 79 cs) := hcs
  have HN : Hid (NAt cs n d.nm (fun k => .map (b.lk k)) (fun k => jval (b.jb k) (d.J k).length) d.ls) := hN
  clear h hcs hN
  unfold ptV
  go_enter Try.func46, Try.ntmps46
  go_upto_region 1 with fail
  have hK1 : Kp B [] w ((w.alloc (Obj.cells #[Value.int .i64 (q.via : Int), Value.int .i64 (q.prev : Int), Value.int .i64 (q.hops : Int)] 70)).alloc (Obj.cells #[Value.string ⟨#[]⟩, Value.int .i64 0, Value.string ⟨#[]⟩] 45)) := by
    rw [← hB]; exact ((Kp.refl _ _ _).alloc (Nat.le_refl _) _).alloc (by simp) _
  have hq1 : Row ((w.alloc (Obj.cells #[Value.int .i64 (q.via : Int), Value.int .i64 (q.prev : Int), Value.int .i64 (q.hops : Int)] 70)).alloc (Obj.cells #[Value.string ⟨#[]⟩, Value.int .i64 0, Value.string ⟨#[]⟩] 45)) B 70 [Value.int .i64 (q.via : Int), Value.int .i64 (q.prev : Int), Value.int .i64 (q.hops : Int)] := by
    rw [← hB]; exact (row_new w _ 70).alloc _
  have hr1 : Row ((w.alloc (Obj.cells #[Value.int .i64 (q.via : Int), Value.int .i64 (q.prev : Int), Value.int .i64 (q.hops : Int)] 70)).alloc (Obj.cells #[Value.string ⟨#[]⟩, Value.int .i64 0, Value.string ⟨#[]⟩] 45)) (B + 1) 45 [Value.string ⟨#[]⟩, Value.int .i64 0, Value.string ⟨#[]⟩] := by
    have := row_new (w.alloc (Obj.cells #[Value.int .i64 (q.via : Int), Value.int .i64 (q.prev : Int), Value.int .i64 (q.hops : Int)] 70)) [Value.string ⟨#[]⟩, Value.int .i64 0, Value.string ⟨#[]⟩] 45
    rw [World.size_alloc, hB] at this
    exact this
  generalize (w.alloc (Obj.cells #[Value.int .i64 (q.via : Int), Value.int .i64 (q.prev : Int), Value.int .i64 (q.hops : Int)] 70)).alloc (Obj.cells #[Value.string ⟨#[]⟩, Value.int .i64 0, Value.string ⟨#[]⟩] 45) = w1 at *
  clear hB
  have q0 := hq1.cell (i := 0) rfl
  have q1 := hq1.cell (i := 1) rfl
  have q2 := hq1.cell (i := 2) rfl
  have r0 := hr1.cell (i := 0) rfl
  have r1 := hr1.cell (i := 1) rfl
  have r2 := hr1.cell (i := 2) rfl
  have f0 := hr1.frozen 0
  have f1 := hr1.frozen 1
  have f2 := hr1.frozen 2
  by_cases h0 : q.hops = 0
  · have HE : Hid (nmd d.nm q = np0) := by unfold Hid nmd; rw [if_pos h0]
    have HR : Hid (Row (((w1.setCell ⟨B + 1, 0, none⟩ (.string ⟨#[]⟩)).setCell ⟨B + 1, 1, none⟩ (.int .i64 0)).setCell ⟨B + 1, 2, none⟩ (.string ⟨#[]⟩)) (B + 1) 45 [.string ⟨#[]⟩, .int .i64 0, .string ⟨#[]⟩]) := row_set3 hr1 _ _ _
    have HK : Hid (Kp B [] w (((w1.setCell ⟨B + 1, 0, none⟩ (.string ⟨#[]⟩)).setCell ⟨B + 1, 1, none⟩ (.int .i64 0)).setCell ⟨B + 1, 2, none⟩ (.string ⟨#[]⟩))) := kp_set3 hK1 (.inl (by omega)) _ _ _
    rw [h0] at q2 ⊢
    clear h0
    go_wp2
    generalize ((w1.setCell ⟨B + 1, 0, none⟩ (.string ⟨#[]⟩)).setCell ⟨B + 1, 1, none⟩ (.int .i64 0)).setCell ⟨B + 1, 2, none⟩ (.string ⟨#[]⟩) = W9 at *
    have s0 := HR.out.cell (i := 0) rfl
    have s1 := HR.out.cell (i := 1) rfl
    have s2 := HR.out.cell (i := 2) rfl
    refine bodyPost_ret (v := npV np0) (by simp [results, Try.results46, go_sem, s0, s1, s2, npV, np0]) rfl ?_
    exact ⟨by rw [HE.out], by rw [HB.out]; exact HK.out⟩
  · have hv := hq.resolve_left h0
    obtain ⟨hv1, hv2⟩ := hv
    have HE : Hid (nmd d.nm q = ⟨d.nm q.via, q.hops, d.nm q.prev⟩) := by unfold Hid nmd; rw [if_neg h0]
    have hst := HST.out.kp hK1 hpl (by simp)
    unfold slc at hst
    have s0 := hst.cell (i := 0) rfl
    have n1 := (HCS.out.kp hK1 hnl (by simp)).cell (HN.out.nm _ hv1)
    have n2 := (HCS.out.kp hK1 hnl (by simp)).cell (HN.out.nm _ hv2)
    have hbe : ((q.hops : Int) == 0) = false := by rw [beq_eq_false_iff_ne]; omega
    have HR : Hid (Row (((w1.setCell ⟨B + 1, 0, none⟩ (.string (d.nm q.via))).setCell ⟨B + 1, 1, none⟩ (.int .i64 (q.hops : Int))).setCell ⟨B + 1, 2, none⟩ (.string (d.nm q.prev))).drew (B + 1) 45 [.string (d.nm q.via), .int .i64 (q.hops : Int), .string (d.nm q.prev)]) := (row_set3 hr1 _ _ _).drew
    have HK : Hid (Kp B [] w (((w1.setCell ⟨B + 1, 0, none⟩ (.string (d.nm q.via))).setCell ⟨B + 1, 1, none⟩ (.int .i64 (q.hops : Int))).setCell ⟨B + 1, 2, none⟩ (.string (d.nm q.prev))).drew) := (kp_set3 hK1 (.inl (by omega)) _ _ _).drew
    clear h0 hst hq hq1 hr1 hK1
    generalize d.nm q.via = x1 at *
    generalize d.nm q.prev = x2 at *
    generalize q.hops = hp at *
    generalize q.via = v1 at *
    generalize q.prev = v2 at *
    go_wp2_with fail
    go_region
    go_wp2
    generalize (((w1.setCell ⟨B + 1, 0, none⟩ (.string x1)).setCell ⟨B + 1, 1, none⟩ (.int .i64 (hp : Int))).setCell ⟨B + 1, 2, none⟩ (.string x2)).drew = W9 at *
    have t0 := HR.out.cell (i := 0) rfl
    have t1 := HR.out.cell (i := 1) rfl
    have t2 := HR.out.cell (i := 2) rfl
    refine bodyPost_ret (v := npV ⟨x1, hp, x2⟩) (by simp [results, Try.results46, go_sem, t0, t1, t2, npV]) rfl ?_
    exact ⟨by rw [HE.out], by rw [HB.out]; exact HK.out⟩
end Go.Proofs.Qxb6600010a
