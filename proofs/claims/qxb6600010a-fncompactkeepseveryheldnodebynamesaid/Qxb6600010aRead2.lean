/-
  MORE READERS OF A Paths.
-/
import Derived.Test.Qxb6600010aRead
namespace Go.Proofs.Qxb6600010a
open Go.RowKit
set_option linter.unusedVariables false
set_option linter.unusedSimpArgs false
attribute [local go_sem ↓] Go.wp_at_zero Go.wp_at_succ
set_option maxHeartbeats 1000000 in
set_option maxRecDepth 100000 in
theorem len_any (w : World) (p n : Nat) (d : PD) (b : PB) (h : PsAt w p n d b) (hn : n ≤ 65536) :
    Calls Try.prog 20 #[.pointer (some ⟨p, 0, none⟩)] w fun e w' => e = .returned (.int .i64 (n : Int)) ∧ w' = w := by
  have hst := h.st
  unfold slc at hst
  have s0 := hst.cell (i := 0) rfl
  clear h hst
  go_enter Try.func20, Try.ntmps20
  go_wp2
  go_ret
  exact ⟨rfl, rfl⟩
set_option maxHeartbeats 1000000 in
set_option maxRecDepth 100000 in
theorem released_any (w : World) (p n : Nat) (d : PD) (b : PB) (h : PsAt w p n d b) :
    Calls Try.prog 26 #[.pointer (some ⟨p, 0, none⟩)] w fun e w' => e = .returned (.int .i64 (d.rel : Int)) ∧ w' = w := by
  have hst := h.st
  unfold slc at hst
  have s0 := hst.cell (i := 2) rfl
  clear h hst
  go_enter Try.func26, Try.ntmps26
  go_wp2
  go_ret
  exact ⟨rfl, rfl⟩
set_option maxHeartbeats 1000000 in
set_option maxRecDepth 100000 in
theorem numbersLen_any (w : World) (p n : Nat) (d : PD) (b : PB) (h : PsAt w p n d b) :
    Calls Try.prog 27 #[.pointer (some ⟨p, 0, none⟩)] w fun e w' => e = .returned (.int .i64 (d.nc : Int)) ∧ w' = w := by
  have hst := h.st
  unfold slc at hst
  have s0 := hst.cell (i := 1) rfl
  have hl := fun ty => h.num.len (t := 72) Try.underlying72 ty
  clear h hst
  go_enter Try.func27, Try.ntmps27
  go_wp2
  go_ret
  exact ⟨rfl, rfl⟩
set_option maxHeartbeats 1000000 in
set_option maxRecDepth 100000 in
theorem name_any (w : World) (p n k : Nat) (d : PD) (b : PB) (h : PsAt w p n d b) (hk : k < n) (hn : n ≤ 65536) :
    Calls Try.prog 28 #[.pointer (some ⟨p, 0, none⟩), .int .i64 (k : Int)] w fun e w' => e = .returned (.string (d.nm k)) ∧ w' = w := by
  have hst := h.st
  unfold slc at hst
  have s0 := hst.cell (i := 0) rfl
  obtain ⟨cs, hcs, hN⟩ := h.nodes
  have a0 := hcs.cell (hN.nm k hk)
  generalize d.nm k = x at *
  clear h hst hcs hN
  go_enter Try.func28, Try.ntmps28
  go_wp2
  go_ret
  exact ⟨rfl, rfl⟩
set_option maxHeartbeats 1000000 in
set_option maxRecDepth 100000 in
theorem listers_any (w : World) (p n k : Nat) (d : PD) (b : PB) (h : PsAt w p n d b) (hk : k < n) (hn : n ≤ 65536) :
    Calls Try.prog 29 #[.pointer (some ⟨p, 0, none⟩), .int .i64 (k : Int)] w fun e w' => e = .returned (.int .i64 (d.ls k : Int)) ∧ w' = w := by
  have hst := h.st
  unfold slc at hst
  have s0 := hst.cell (i := 0) rfl
  obtain ⟨cs, hcs, hN⟩ := h.nodes
  have a0 := hcs.cell (hN.ls k hk)
  generalize d.ls k = x at *
  clear h hst hcs hN
  go_enter Try.func29, Try.ntmps29
  go_wp2
  go_ret
  exact ⟨rfl, rfl⟩
theorem nil_len (ty : TypeId) (w : World) : (Builtin.len_ #[77] ty #[.map none]).run Try.prog w = .ok (.int .i64 0) w := by
  simp [Builtin.len_, goInt]
set_option maxHeartbeats 1000000 in
set_option maxRecDepth 100000 in
theorem linkCount_any (w : World) (p n k : Nat) (d : PD) (b : PB) (h : PsAt w p n d b) (hk : k < n) (hn : n ≤ 65536) :
    Calls Try.prog 30 #[.pointer (some ⟨p, 0, none⟩), .int .i64 (k : Int)] w fun e w' => e = .returned (.int .i64 (d.lc k : Int)) ∧ w' = w := by
  have hst := h.st
  unfold slc at hst
  have s0 := hst.cell (i := 0) rfl
  obtain ⟨cs, hcs, hN⟩ := h.nodes
  have a0 := hcs.cell (hN.lk k hk)
  cases hb : b.lk k with
  | none =>
    rw [hb] at a0
    have h0 := (h.lk0 k hk hb).1
    rw [h0]
    clear h hst hcs hN hb h0
    go_enter Try.func30, Try.ntmps30
    go_wp2
    go_ret
    exact ⟨rfl, rfl⟩
  | some g =>
    rw [hb] at a0
    have hl := fun ty => (h.lk1 k g hk hb).len (t := 77) Try.underlying77 ty
    generalize d.lc k = x at *
    clear h hst hcs hN hb
    go_enter Try.func30, Try.ntmps30
    go_wp2
    go_ret
    exact ⟨rfl, rfl⟩
theorem look_nil77 (t : Nat) (ht : t ≤ 1000000000) (w : World) : (Instr.lookup 77 (.map none) (.int .i64 (t : Int)) false).run Try.prog w = .ok (.int .i64 0) w := by
  obtain ⟨l, hl⟩ := key3 (a := t) ht
  unfold kN at hl
  simpa using Maps.look_nil (w := w) false keyed3 Try.underlying77 (zero3 w) hl
set_option maxHeartbeats 1000000 in
set_option maxRecDepth 100000 in
theorem linkTimes_any (w : World) (p n k t : Nat) (d : PD) (b : PB) (h : PsAt w p n d b) (hk : k < n) (hn : n ≤ 65536) (ht : t ≤ 65536) :
    Calls Try.prog 31 #[.pointer (some ⟨p, 0, none⟩), .int .i64 (k : Int), .int .i64 (t : Int)] w fun e w' => e = .returned (.int .i64 (d.L k t : Int)) ∧ w' = w := by
  have hst := h.st
  unfold slc at hst
  have s0 := hst.cell (i := 0) rfl
  obtain ⟨cs, hcs, hN⟩ := h.nodes
  have a0 := hcs.cell (hN.lk k hk)
  cases hb : b.lk k with
  | none =>
    rw [hb] at a0
    have h0 := (h.lk0 k hk hb).2 t
    rw [h0]
    have hlk := look_nil77 t (by omega) w
    clear h hst hcs hN hb h0
    go_enter Try.func31, Try.ntmps31
    go_wp2
    go_ret
    exact ⟨rfl, rfl⟩
  | some g =>
    rw [hb] at a0
    obtain ⟨l, hl⟩ := key3 (a := t) (by omega)
    have hlk := (h.lk1 k g hk hb).look (v := t) keyed3 Try.underlying77 hl
    unfold kN at hlk
    have he : ((if d.L k t = 0 then none else some (d.L k t : Int)).getD 0) = (d.L k t : Int) := by
      by_cases e : d.L k t = 0
      · rw [if_pos e, e]; rfl
      · rw [if_neg e]; rfl
    rw [he] at hlk
    generalize d.L k t = x at *
    clear h hst hcs hN hb hl he
    go_enter Try.func31, Try.ntmps31
    go_wp2
    go_ret
    exact ⟨rfl, rfl⟩
set_option maxHeartbeats 1000000 in
set_option maxRecDepth 100000 in
theorem joined_any (w : World) (p n k : Nat) (d : PD) (b : PB) (h : PsAt w p n d b) (hk : k < n) (hn : n ≤ 65536) :
    Calls Try.prog 32 #[.pointer (some ⟨p, 0, none⟩), .int .i64 (k : Int)] w fun e w' => e = .returned (jval (b.jb k) (d.J k).length) ∧ w' = w := by
  have hst := h.st
  unfold slc at hst
  have s0 := hst.cell (i := 0) rfl
  obtain ⟨cs, hcs, hN⟩ := h.nodes
  have a0 := hcs.cell (hN.jv k hk)
  obtain ⟨ao, hja, _⟩ := jval_form (w := w) (h.jn0 k hk) (h.jn1 k · hk)
  rw [hja] at a0 ⊢
  generalize (d.J k).length = x at *
  clear h hst hcs hN hja
  go_enter Try.func32, Try.ntmps32
  go_wp2
  go_ret
  exact ⟨rfl, rfl⟩
set_option maxHeartbeats 1000000 in
set_option maxRecDepth 100000 in
theorem number_any (w : World) (p n : Nat) (s : ByteArray) (d : PD) (b : PB) (h : PsAt w p n d b) (hs : s.size ≤ maxLen) :
    Calls Try.prog 23 #[.pointer (some ⟨p, 0, none⟩), .string s] w fun e w' => e = .returned (.tuple #[.int .i64 ((d.num s).getD 0), .bool (d.num s).isSome]) ∧ w' = w := by
  have hst := h.st
  unfold slc at hst
  have s0 := hst.cell (i := 1) rfl
  obtain ⟨l, hl⟩ := key9 hs
  have hlk := h.num.look_ok (v := s) keyed9 Try.underlying72 hl
  unfold kS at hlk
  generalize (d.num s).getD 0 = x at *
  generalize (d.num s).isSome = y at *
  clear h hst hl
  go_enter Try.func23, Try.ntmps23
  go_wp2
  go_ret2
  exact ⟨rfl, rfl⟩
set_option maxHeartbeats 2000000 in
set_option maxRecDepth 100000 in
theorem zznamed_any (w : World) (p n k : Nat) (d : PD) (b : PB) (h : PsAt w p n d b) (hk : k < n) (hn : n ≤ 65536) (hq : (d.P k).hops = 0 ∨ ((d.P k).via < n ∧ (d.P k).prev < n)) (hh : (d.P k).hops ≤ 1000000) :
    Calls Try.prog 22 #[.pointer (some ⟨p, 0, none⟩), .int .i64 (k : Int)] w fun e w' => e = .returned (npV (nmd d.nm (d.P k))) ∧ Kp w.heap.size [] w w' := by
  obtain ⟨B, hB⟩ : ∃ B, w.heap.size = B := ⟨_, rfl⟩
  have HB : Hid (w.heap.size = B) := hB
  have hK1 : Kp B [] w (w.alloc (Obj.cells #[Value.string ⟨#[]⟩, Value.int .i64 0, Value.string ⟨#[]⟩] 45)) := by rw [← hB]; exact (Kp.refl _ _ _).alloc (Nat.le_refl _) _
  have hr1 : Row (w.alloc (Obj.cells #[Value.string ⟨#[]⟩, Value.int .i64 0, Value.string ⟨#[]⟩] 45)) B 45 [Value.string ⟨#[]⟩, Value.int .i64 0, Value.string ⟨#[]⟩] := by rw [← hB]; exact row_new w _ 45
  have h1 := h.kp (by rw [hB]; exact hK1)
  have hcall := named_any _ p n d b h1 (d.P k) hq hn hh
  unfold ptV at hcall
  have hst := h1.st
  have s3 := hst.cell (i := 3) rfl
  obtain ⟨cq, hcq, hPQ, hql, hq1, hq2⟩ := h1.paths
  have a0 := hcq.cell (hPQ.via k hk)
  have a1 := hcq.cell (hPQ.prev k hk)
  have a2 := hcq.cell (hPQ.hops k hk)
  obtain ⟨⟨xv, xh, xp⟩, hx⟩ : ∃ x, nmd d.nm (d.P k) = x := ⟨_, rfl⟩
  rw [hx] at hcall ⊢
  unfold npV at hcall ⊢
  simp only [] at hcall ⊢
  generalize d.P k = q at *
  clear h h1 hst hcq hPQ hql hB hx hq hh
  unfold maxLen at hq2
  go_enter Try.func22, Try.ntmps22
  go_upto_region 1 with fail
  rw [HB.out]
  have hsz : B < (w.alloc (Obj.cells #[Value.string ⟨#[]⟩, Value.int .i64 0, Value.string ⟨#[]⟩] 45)).heap.size := hr1.lt
  generalize w.alloc (Obj.cells #[Value.string ⟨#[]⟩, Value.int .i64 0, Value.string ⟨#[]⟩] 45) = w1 at *
  go_wp2_with fail
  refine hcall.mono ?_
  rintro e w2 ⟨rfl, hk2⟩
  clear hcall
  have hr2 := hr1.kp hk2 hsz (by simp)
  have hK2 : Kp B [] w w2 := hK1.trans (hk2.mono (by omega) (by simp))
  have r0 := hr2.cell (i := 0) rfl
  have r1 := hr2.cell (i := 1) rfl
  have r2 := hr2.cell (i := 2) rfl
  have f0 := hr2.frozen 0
  have f1 := hr2.frozen 1
  have f2 := hr2.frozen 2
  have HR : Hid (Row (((w2.setCell ⟨B, 0, none⟩ (.string xv)).setCell ⟨B, 1, none⟩ (.int .i64 (xh : Int))).setCell ⟨B, 2, none⟩ (.string xp)) B 45 [.string xv, .int .i64 (xh : Int), .string xp]) := row_set3 hr2 _ _ _
  have HK : Hid (Kp B [] w (((w2.setCell ⟨B, 0, none⟩ (.string xv)).setCell ⟨B, 1, none⟩ (.int .i64 (xh : Int))).setCell ⟨B, 2, none⟩ (.string xp))) := kp_set3 hK2 (.inl (Nat.le_refl _)) _ _ _
  clear hr1 hr2 hK1 hK2 hk2 s3 a0 a1 a2
  go_wp2
  generalize ((w2.setCell ⟨B, 0, none⟩ (.string xv)).setCell ⟨B, 1, none⟩ (.int .i64 (xh : Int))).setCell ⟨B, 2, none⟩ (.string xp) = W9 at *
  have t0 := HR.out.cell (i := 0) rfl
  have t1 := HR.out.cell (i := 1) rfl
  have t2 := HR.out.cell (i := 2) rfl
  refine bodyPost_ret (v := .agg #[.string xv, .int .i64 (xh : Int), .string xp]) (by simp [results, Try.results22, go_sem, t0, t1, t2]) rfl ?_
  exact ⟨rfl, by rw [HB.out]; exact HK.out⟩
end Go.Proofs.Qxb6600010a
