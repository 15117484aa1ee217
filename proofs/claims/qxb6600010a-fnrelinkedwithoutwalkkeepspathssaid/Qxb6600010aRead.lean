/-
  READERS OF A Paths; THE MESH AS A GRAPH.
-/
import Derived.Test.Qxb6600010aWalk
import Derived.Test.Qxb6600010aState
import Derived.BigQuiet
namespace Go.Proofs.Qxb6600010a
open Go.RowKit
set_option linter.unusedVariables false
set_option linter.unusedSimpArgs false
attribute [local go_sem ↓] Go.wp_at_zero Go.wp_at_succ

/-- A list in order for R is in order for what R gives. -/
theorem pw_to {α : Type} {R S : α → α → Prop} (h : ∀ a b, R a b → S a b) (l : List α) : l.Pairwise R → l.Pairwise S := by
  induction l with
  | nil => intro _; exact List.Pairwise.nil
  | cons a l ih =>
    intro hp
    rw [List.pairwise_cons] at hp ⊢
    exact ⟨fun b hb => h _ _ (hp.1 b hb), ih hp.2⟩
/-! ### The readers -/
set_option maxHeartbeats 1000000 in
set_option maxRecDepth 100000 in
theorem zzwalk_any (w : World) (p n : Nat) (d : PD) (b : PB) (rk : Nat → Nat) (h : PsAt w p n d b) (hG : PL.Gr n d.J rk) (hn : n ≤ 65536) (hd1 : p ≠ b.nb) (hd2 : p ≠ b.mb) (hd3 : ∀ k g, k < n → b.lk k = some g → g ≠ p) (hd4 : ∀ k g, k < n → b.jb k = some g → g ≠ p) (hnx : b.nx = .slice none 0 0) (hqu : b.qu = .slice none 0 0) (hjl : ∀ k, k < n → (d.J k).length ≤ 65536)
    (hV : ∀ k, k < n → ((d.P k).hops = 0 ∨ ((d.P k).via < n ∧ (d.P k).prev < n)) ∧ (d.P k).hops ≤ 1000000 ∧ (d.P k).via ≤ 1000000 ∧ (d.P k).prev ≤ 1000000) :
    Calls Try.prog 17 #[.pointer (some ⟨p, 0, none⟩)] w fun e w' => WalkPost w p n d b e w' := by
  have hc := walk_any w p n d b rk h hG hn hd1 hd2 hd3 hd4 hnx hqu hjl hV
  clear h hG hd3 hd4 hnx hqu hjl hV
  go_enter Try.func17, Try.ntmps17
  go_wp2_with fail
  refine hc.mono ?_
  rintro e w' hp
  obtain ⟨v, nx, qu, pb, pc, C, rfl, hr⟩ := hp
  have HR : Hid (WalkPost w p n d b (.returned v) w') := ⟨v, nx, qu, pb, pc, C, rfl, hr⟩
  clear hr hc
  go_wp2
  go_ret
  exact HR.out
set_option maxHeartbeats 1000000 in
set_option maxRecDepth 100000 in
theorem path_any (w : World) (p n k : Nat) (d : PD) (b : PB) (h : PsAt w p n d b) (hk : k < n) (hn : n ≤ 65536) :
    Calls Try.prog 18 #[.pointer (some ⟨p, 0, none⟩), .int .i64 (k : Int)] w fun e w' => e = .returned (.tuple #[.int .i64 ((d.P k).via : Int), .int .i64 ((d.P k).prev : Int), .int .i64 ((d.P k).hops : Int)]) ∧ Kp w.heap.size [] w w' := by
  have hst := h.st
  have s3 := hst.cell (i := 3) rfl
  obtain ⟨cq, hcq, hPQ, hql, hq1, hq2⟩ := h.paths
  have a0 := hcq.cell (hPQ.via k hk)
  have a1 := hcq.cell (hPQ.prev k hk)
  have a2 := hcq.cell (hPQ.hops k hk)
  generalize d.P k = q at *
  clear hst hcq hPQ hql h
  unfold maxLen at hq2
  go_enter Try.func18, Try.ntmps18
  go_upto_region 2 with fail
  have hr := row_new w [.int .i64 (q.via : Int), .int .i64 (q.prev : Int), .int .i64 (q.hops : Int)] 70
  have hK : Kp w.heap.size [] w (w.alloc (Obj.cells #[.int .i64 (q.via : Int), .int .i64 (q.prev : Int), .int .i64 (q.hops : Int)] 70)) := (Kp.refl _ _ _).alloc (Nat.le_refl _) _
  obtain ⟨B, hB⟩ : ∃ B, w.heap.size = B := ⟨_, rfl⟩
  have HB : Hid (w.heap.size = B) := hB
  rw [hB] at hr hK ⊢
  clear hB s3 a0 a1 a2
  generalize w.alloc (Obj.cells #[.int .i64 (q.via : Int), .int .i64 (q.prev : Int), .int .i64 (q.hops : Int)] 70) = w1 at *
  have r0 := hr.cell (i := 0) rfl
  have r1 := hr.cell (i := 1) rfl
  have r2 := hr.cell (i := 2) rfl
  clear hr
  go_quiet (fail)
  go_wp2
  go_ret3
  exact ⟨rfl, by rw [HB.out]; exact hK.drewN _⟩
namespace PL
def rkf (m : PM) : Nat → Nat := fun k => m.rk[k]?.getD 0
theorem jmem {names : List ByteArray} {n : Nat} {m : PM} (h : PMesh names n m) (a b : Nat) : b ∈ tg m.J a ↔ 0 < m.S.ct (a, b) ∧ 0 < m.S.ct (b, a) := by
  by_cases ha : a < n
  · rw [(h.jp a ha).mem_iff, List.mem_filter, h.inv.mem]
    simp
  · have : tg m.J a = [] := by unfold tg; rw [List.getElem?_eq_none (by rw [h.jl]; omega)]; rfl
    rw [this]
    simp only [List.not_mem_nil, false_iff, not_and]
    intro h1
    exact absurd (h.inv.rng a b h1).1 ha
theorem gr_of {names : List ByteArray} {n : Nat} {m : PM} (h : PMesh names n m) : Gr n (fun k => tg m.J k) (rkf m) := by
  refine ⟨h.n0, fun a b hb => ?_, fun a b hb => ?_, fun a => ?_⟩
  · have := h.inv.rng a b ((jmem h a b).1 hb).1
    exact ⟨this.2.1, fun e => this.2.2 e.symm⟩
  · have := (jmem h a b).1 hb
    exact (jmem h b a).2 ⟨this.2, this.1⟩
  · by_cases ha : a < n
    · refine pw_to ?_ _ (h.js a ha)
      intro x y hxy
      unfold rankLe at hxy
      simp at hxy
      exact hxy
    · have : tg m.J a = [] := by unfold tg; rw [List.getElem?_eq_none (by rw [h.jl]; omega)]; rfl
      rw [this]; exact List.Pairwise.nil
theorem jlen {names : List ByteArray} {n : Nat} {m : PM} (h : PMesh names n m) (k : Nat) (hk : k < n) : (tg m.J k).length ≤ 65536 := by
  have h1 := (h.jp k hk).length_eq
  have h2 := List.length_filter_le (fun b => decide (0 < m.S.ct (b, k))) (tg m.S.T k)
  have h3 := h.inv.short k
  omega
theorem oldP_ok {n : Nat} {m : PM} (old : List Int) (keep : Int) (h0 : 0 < n) (k : Nat) : ((oldP n m old keep k).hops = 0 ∨ ((oldP n m old keep k).via < n ∧ (oldP n m old keep k).prev < n)) ∧ (oldP n m old keep k).hops ≤ n ∧ (oldP n m old keep k).via ≤ n ∧ (oldP n m old keep k).prev ≤ n := by
  unfold oldP
  split
  · have h1 := md_lt (old[3 * k]?.getD 0) n h0
    have h2 := md_lt (old[3 * k + 1]?.getD 0) n h0
    have h3 := md_lt (old[3 * k + 2]?.getD 0) (n + 1) (by omega)
    exact ⟨.inr ⟨h1, h2⟩, by show md _ _ ≤ n; omega, by show md _ _ ≤ n; omega, by show md _ _ ≤ n; omega⟩
  · exact ⟨.inl rfl, Nat.zero_le _, Nat.zero_le _, Nat.zero_le _⟩
theorem rank_lt {names : List ByteArray} {n : Nat} {m : PM} (h : PMesh names n m) (k : Nat) (hk : k < n) : ∃ r, m.rk[k]? = some r ∧ r < n ∧ rkf m k = r := by
  have h1 : k < m.rk.length := by rw [h.ranked.len, h.nl]; exact hk
  refine ⟨m.rk[k], List.getElem?_eq_getElem h1, ?_, ?_⟩
  · have := h.ranked.lt k h1; rw [h.nl] at this; exact this
  · unfold rkf; rw [List.getElem?_eq_getElem h1]; rfl
end PL
theorem pdState_P (n : Nat) (names : List ByteArray) (m : PL.PM) (old : List Int) (keep : Int) (k : Nat) (hk : k < n) : (pdState n names m old keep).P k = PL.oldP n m old keep k := by
  show (⟨(tab n _)[k]?.getD 0, (tab n _)[k]?.getD 0, (tab n _)[k]?.getD 0⟩ : PT) = _
  rw [tab_get _ _ _ _ hk, tab_get _ _ _ _ hk, tab_get _ _ _ _ hk]
theorem state_walk {w : World} {n : Nat} {names : List ByteArray} {m : PL.PM} {old : List Int} {keep : Int} {p : Nat} {b : PB} {B : Nat} (hm : PL.PMesh names n m) (h : PsAt w p n (pdState n names m old keep) b) (hf : PFr B p n b) :
    Calls Try.prog 17 #[.pointer (some ⟨p, 0, none⟩)] w fun e w' => WalkPost w p n (pdState n names m old keep) b e w' := by
  have hn := hm.n1
  refine zzwalk_any w p n _ b (PL.rkf m) h (PL.gr_of hm) hm.n1 hf.p1 hf.p2 (fun k g hk hg => (hf.lk k g hk hg).2.1) (fun k g hk hg => (hf.jb k g hk hg).2.1) hf.nx hf.qu (fun k hk => PL.jlen hm k hk) (fun k hk => ?_)
  rw [pdState_P _ _ _ _ _ _ hk]
  have := PL.oldP_ok (m := m) old keep hm.n0 k
  exact ⟨this.1, by omega, by omega, by omega⟩
end Go.Proofs.Qxb6600010a
