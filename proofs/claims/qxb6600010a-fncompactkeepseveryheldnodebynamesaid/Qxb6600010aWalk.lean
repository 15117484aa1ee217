/-
  THE WALK of walk.
-/
import Derived.Test.Qxb6600010aWalk1
import Derived.Test.Qxb6600010aWalk3
import Derived.Test.Qxb6600010aSort
import Derived.Test.Qxb6600010aGrow
import Derived.Deep.RegionHeld3
namespace Go.Proofs.Qxb6600010a
open Go.RowKit
set_option linter.unusedVariables false
set_option linter.unusedSimpArgs false
attribute [local go_sem ↓] Go.wp_at_zero Go.wp_at_succ
namespace PL
theorem bst_len {n : Nat} {J : Nat → List Nat} {rk : Nat → Nat} (hg : Gr n J rk) : ∀ i, ∃ j, j ≤ i ∧ j ≤ (bst J j).1.length ∧ bst J i = bst J j ∧ (j < i → (bst J j).1.length = j) := by
  intro i
  induction i with
  | zero => exact ⟨0, Nat.le_refl _, Nat.zero_le _, rfl, fun h => by omega⟩
  | succ i ih =>
    obtain ⟨j, h1, h2, h3, h4⟩ := ih
    by_cases hj : j < i
    · have h5 := h4 hj
      have h6 : (bst J i).1[i]? = none := by rw [h3]; exact List.getElem?_eq_none (by omega)
      exact ⟨j, by omega, h2, by rw [bst_none J i h6]; exact h3, fun _ => h5⟩
    · have e : j = i := by omega
      subst e
      cases hf : (bst J j).1[j]? with
      | none =>
        have h5 := List.getElem?_eq_none_iff.1 hf
        exact ⟨j, by omega, h2, bst_none J j hf, fun _ => by omega⟩
      | some f =>
        have hb := (bi_bit hg (bi_bst hg j h2) hf (J f).length (Nat.le_refl _)).2
        rw [bit_all J j f hf] at hb
        by_cases hx : j + 1 ≤ (bst J (j + 1)).1.length
        · exact ⟨j + 1, Nat.le_refl _, hx, rfl, fun h => by omega⟩
        · have := (List.getElem?_eq_some_iff.1 hb).1
          omega
theorem bfs_fin {n : Nat} {J : Nat → List Nat} {rk : Nat → Nat} (hg : Gr n J rk) : BFin n J rk (bfs n J) := by
  obtain ⟨j, h1, h2, h3, h4⟩ := bst_len hg n
  have hb := bi_bst hg j h2
  have hl := nodup_len hb.nd hb.lt
  have hj : j = (bst J j).1.length := by
    by_cases e : j < n
    · exact (h4 e).symm
    · omega
  unfold bfs
  rw [h3]
  exact bfin_of hg hb hj
end PL
/-- A row of Changes that a call has made beyond B. -/
structure ChgAt (w : World) (B : Nat) (v : Value) (C : List CH) : Prop where
  own : w.ownsRow B 48 7 v C.length (chs C)
/-- What walk leaves. -/
def WalkPost (w : World) (p n : Nat) (d : PD) (b : PB) (e : Ending) (w' : World) : Prop :=
  ∃ (v nx qu : Value) (pb pc : Nat) (C : List CH), e = .returned v ∧ PsAt w' p n { d with P := PL.bfs n d.J } { b with pb := pb, pc := pc, nx := nx, qu := qu } ∧
    w.heap.size ≤ pb ∧ C.Perm ((difs d.P (PL.bfs n d.J) n).map (chOf d.nm d.P (PL.bfs n d.J))) ∧ C.Pairwise (fun x y => PL.nlt y.nm x.nm = false) ∧ w'.ownsRow w.heap.size 48 7 v C.length (chs C) ∧ Kp w.heap.size [p] w w'
set_option maxHeartbeats 20000000 in
set_option maxRecDepth 100000 in
theorem walk_any (w : World) (p n : Nat) (d : PD) (b : PB) (rk : Nat → Nat) (h : PsAt w p n d b) (hG : PL.Gr n d.J rk) (hn : n ≤ 65536) (hd1 : p ≠ b.nb) (hd2 : p ≠ b.mb) (hd3 : ∀ k g, k < n → b.lk k = some g → g ≠ p) (hd4 : ∀ k g, k < n → b.jb k = some g → g ≠ p) (hnx : b.nx = .slice none 0 0) (hqu : b.qu = .slice none 0 0) (hjl : ∀ k, k < n → (d.J k).length ≤ 65536)
    (hV : ∀ k, k < n → ((d.P k).hops = 0 ∨ ((d.P k).via < n ∧ (d.P k).prev < n)) ∧ (d.P k).hops ≤ 1000000 ∧ (d.P k).via ≤ 1000000 ∧ (d.P k).prev ≤ 1000000) :
    Calls Try.prog 45 #[.pointer (some ⟨p, 0, none⟩)] w fun e w' => WalkPost w p n d b e w' := by
  have hn0 := hG.n0
  obtain ⟨B, hB⟩ : ∃ B, w.heap.size = B := ⟨_, rfl⟩
  have hpl : p < B := by rw [← hB]; exact h.st.lt
  have hst := h.st
  rw [hnx, hqu] at hst
  have s3 := hst.cell (i := 3) rfl
  have s4 := hst.cell (i := 4) rfl
  have HP : Hid (PsAt w p n d b) := h
  have HG : Hid (PL.Gr n d.J rk) := hG
  have HST : Hid (Row w p 75 [slc b.nb n, .map (some b.mb), .int .i64 (d.rel : Int), .slice (some ⟨b.pb, 0, none⟩) n b.pc, .slice none 0 0, .slice none 0 0]) := hst
  have HB : Hid (w.heap.size = B) := hB
  have hpc : n ≤ b.pc ∧ b.pc ≤ maxLen := by obtain ⟨cs, _, _, _, h4, h5⟩ := h.paths; exact ⟨h4, h5⟩
  obtain ⟨hpc1, hpc2⟩ := hpc
  have hgr := fun W => grow_any W n hn0 hn
  have HGR : Hid (∀ W, Calls Try.prog 49 #[.slice none 0 0, .int .i64 (n : Int)] W fun e w' => ∃ (gc : Nat) (cs : List Value), n ≤ gc ∧ gc ≤ maxLen ∧ e = .returned (.slice (some ⟨W.heap.size, 0, none⟩) 0 gc) ∧ w' = W.drew.alloc (.cells cs.toArray 70) ∧ Zeros cs (gc * 3)) := hgr
  have HJL : Hid (∀ k, k < n → (d.J k).length ≤ 65536) := hjl
  have HVV : Hid (∀ k, k < n → ((d.P k).hops = 0 ∨ ((d.P k).via < n ∧ (d.P k).prev < n)) ∧ (d.P k).hops ≤ 1000000 ∧ (d.P k).via ≤ 1000000 ∧ (d.P k).prev ≤ 1000000) := hV
  have HD : Hid ((∀ k g, k < n → b.lk k = some g → g ≠ p) ∧ (∀ k g, k < n → b.jb k = some g → g ≠ p)) := ⟨hd3, hd4⟩
  clear h hG hst hB hgr hjl hV hd3 hd4
  have ne1 := World.new_ne w ⟨p, 3, none⟩ s3
  have ne2 := World.new_ne w ⟨p, 4, none⟩ s4
  go_enter Try.func45, Try.ntmps45
  go_upto_region 1 with fail
  go_region_held3 (fun w' => w'.cell? ⟨p, 3, none⟩ = some (.slice (some ⟨b.pb, 0, none⟩) n b.pc) ∧ w'.cell? ⟨p, 4, none⟩ = some (.slice none 0 0)) (go_keep) (first | (go_at_call 49; refine (HGR.out _).mono ?_; rintro e w' ⟨gc, cs, hg1, hg2, rfl, rfl, hz⟩))
  clear s3 s4 ne1 ne2 HGR
  have hB := HB.out
  have hg0 : Row (w.alloc (Obj.cells cs.toArray 70)).drew.drew B 70 cs := by have := row_new w cs 70; rw [hB] at this; exact this.drew.drew
  have hk0 : Kp B [] w (w.alloc (Obj.cells cs.toArray 70)).drew.drew := by rw [← hB]; exact ((Kp.refl _ _ _).alloc (Nat.le_refl _) _).drew.drew
  have hs0 : (w.alloc (Obj.cells cs.toArray 70)).drew.drew.heap.size = B + 1 := by show (w.alloc (Obj.cells cs.toArray 70)).heap.size = B + 1; rw [World.size_alloc, hB]
  rw [hB]
  generalize (w.alloc (Obj.cells cs.toArray 70)).drew.drew = w1 at *
  obtain ⟨w2, hcl, hg2, hgr2⟩ := clear_any w1 B n gc cs hn0 hg1 hg0 hz
  have hk2 : Kp B [] w w2 := hk0.trans ((Kp.refl _ _ _).grown hgr2 (by omega) (fun q hq => .inl (by cases hq; exact Nat.le_refl _)))
  have hs2 : B + 1 ≤ w2.heap.size := by rw [← hs0]; exact hgr2.size
  clear hB hg0 hk0 hs0 hgr2
  go_upto_region 3 with fail
  have s5 := (HST.out.kp hk2 hpl (by simp)).cell (i := 5) rfl
  have a1 := World.cell?_alloc_lt w2 (Obj.cells #[Value.int .i64 0] 3) ⟨p, 5, none⟩ (by show p < _; omega)
  have hqc1 := grownCap_ge w2 1 0 3
  have hqc2 := grownCap_le_maxLen w2 1 0 3 (by unfold maxLen; omega)
  unfold grownCap at hqc1 hqc2
  go_wp2_with fail
  generalize (Question.appendCap 1 0 3).cut (w2.tape w2.drawn (Question.appendCap 1 0 3)) = qc at *
  obtain ⟨Q0, hQ0⟩ : ∃ Q0, w2.heap.size + 1 = Q0 := ⟨_, rfl⟩
  have hg3 : Row ((w2.alloc (Obj.cells #[Value.int IntKind.i64 0] 3)).alloc (Obj.cells (#[Value.int IntKind.i64 0] ++ Builtin.zeroCells #[Value.int IntKind.i64 0] (qc - 1)) 3)).drew B 70 cs := ((hg2.alloc _).alloc _).drew
  have hk3 : Kp B [] w ((w2.alloc (Obj.cells #[Value.int IntKind.i64 0] 3)).alloc (Obj.cells (#[Value.int IntKind.i64 0] ++ Builtin.zeroCells #[Value.int IntKind.i64 0] (qc - 1)) 3)).drew := ((hk2.alloc (by omega) _).alloc (by rw [World.size_alloc]; omega) _).drew
  have hown3 : World.ownsRow ((w2.alloc (Obj.cells #[Value.int IntKind.i64 0] 3)).alloc (Obj.cells (#[Value.int IntKind.i64 0] ++ Builtin.zeroCells #[Value.int IntKind.i64 0] (qc - 1)) 3)).drew (B + 1) 3 1 (.slice (some ⟨Q0, 0, none⟩) 1 qc) 1 (nats [0]) := by
    have h := row_arr (w2.alloc (Obj.cells #[Value.int IntKind.i64 0] 3)) (#[Value.int IntKind.i64 0] ++ Builtin.zeroCells #[Value.int IntKind.i64 0] (qc - 1)) 3
    have he : (#[Value.int IntKind.i64 0] ++ Builtin.zeroCells #[Value.int IntKind.i64 0] (qc - 1)).toList = nats [0] ++ (Builtin.zeroCells #[Value.int IntKind.i64 0] (qc - 1)).toList := by simp [nats]
    rw [World.size_alloc, hQ0, he] at h
    refine row_to_owns (rest := (Builtin.zeroCells #[Value.int IntKind.i64 0] (qc - 1)).toList) (by omega) ?_ rfl hqc1 hqc2 ?_
    · exact h.drew
    · simp [nats, Builtin.zeroCells]; omega
  rw [hQ0]
  generalize ((w2.alloc (Obj.cells #[Value.int IntKind.i64 0] 3)).alloc (Obj.cells (#[Value.int IntKind.i64 0] ++ Builtin.zeroCells #[Value.int IntKind.i64 0] (qc - 1)) 3)).drew = w3 at *
  clear hQ0 hg2 hk2 s5 a1
  have hW0 : WkAt w3 w B n gc (.slice (some ⟨Q0, 0, none⟩) 1 qc) (PL.bst d.J 0) := ⟨hown3, ⟨cs, hg3, ⟨by rw [hz.1]; omega, fun k hk => hz.2 _ (by omega), fun k hk => hz.2 _ (by omega), fun k hk => hz.2 _ (by omega)⟩, hz.1⟩, hk3⟩
  clear hown3 hg3 hk3 hz hqc1 hqc2
  refine walk_loop1 w w3 p n B gc Q0 qc d b rk hn hpl hg1 hg2 HB HP HG HJL hW0 (fun u4 u5 u6 u7 u8 u9 u10 u11 u12 u13 u14 u15 u16 u17 u18 u19 u20 u21 u22 u23 u24 u25 u26 u27 u28 u29 u30 u31 u32 u33 u34 u35 u36 u37 u38 u39 u40 u41 u42 u43 u44 u45 u46 u47 u48 u49 u50 u51 u52 u53 u54 u55 u56 u57 u58 u59 u60 u61 u62 u63 u64 u65 u66 u67 u68 u69 u70 u71 u72 u73 u74 u75 u76 u77 u78 u79 u80 u81 u82 u83 u84 u85 u86 u87 u88 u89 u90 u91 u92 u93 u94 u95 u96 u97 u98 u99 u100 u101 u102 u103 u104 u105 u106 u107 u108 u109 u110 u111 u112 u113 u114 u115 u116 u117 u118 u119 u120 u121 u122 u123 u124 u125 u126 u127 u128 u129 u130 u131 u132 u133 u134 u135 u136 u137 u138 u139 u140 u141 u142 u143 u144 u145 u146 u147 u148 u149 u150 u151 u152 u153 u154 u155 u156 u157 u158 u159 wb hWb => ?_)
  clear hW0
  obtain ⟨cp, hcp, hPA, hcl⟩ := hWb.r
  have hK4 := hWb.k
  obtain ⟨qa, qcp, hu4, _⟩ := owns_form hWb.q
  obtain ⟨ql, hql⟩ : ∃ ql, (PL.bst d.J n).1.length = ql := ⟨_, rfl⟩
  rw [hql] at hu4
  subst hu4
  clear hWb hql
  go_wp2_with fail
  obtain ⟨B3, hB3⟩ : ∃ B3, wb.heap.size = B3 := ⟨_, rfl⟩
  have hfin := PL.bfs_fin HG.out
  have HFIN : Hid (PL.BFin n d.J rk (PL.bfs n d.J)) := hfin
  have hPb := HP.out.kp (by rw [HB.out]; exact hK4)
  have HPb : Hid (PsAt wb p n d b) := hPb
  refine walk_loop3 wb p n B B3 gc d b (PL.bfs n d.J) cp hn0 hn hg1 hg2 hB3 HPb hcp hPA (fun k hk => ⟨(HVV.out k hk).1, (HVV.out k hk).2.1⟩) (fun k hk => ⟨⟨(HFIN.out.lt k).1, (HFIN.out.lt k).2.1⟩, by have := (HFIN.out.lt k).2.2; omega, (HVV.out k hk).2.2⟩) (fun u10 u11 u12 u13 u14 u15 u16 u17 u18 u19 u20 u21 u22 u23 u24 u25 u26 u27 u28 u29 u30 u31 u32 u33 u34 u35 u36 u37 u38 u39 u40 u41 u42 u43 u44 u45 u46 u47 u48 u49 u50 u51 u52 u53 u54 u55 u56 u57 u58 u59 u60 u61 u62 u63 u64 u65 u66 u67 u68 u69 u70 u71 u72 u73 u74 u75 u76 u77 u78 u79 u80 u81 u82 u83 u84 u85 u86 u87 u88 u89 u90 u91 u92 u93 u94 u95 u96 u97 u98 u99 u100 u101 u102 u103 u104 u105 u106 u107 u108 u109 u110 u111 u112 u113 u114 u115 u116 u117 u118 u119 u120 u121 u122 u123 u124 u125 u126 u127 u128 u129 u130 u131 u132 u133 u134 u135 u136 u137 u138 u139 u140 u141 u142 u143 u144 u145 u146 u147 u148 u149 u150 u151 u152 u153 u154 u155 u156 u157 u158 u159 wc hC hKc => ?_)
  have hsort := sort_any wc B3 u10 ((difs d.P (PL.bfs n d.J) n).map (chOf d.nm d.P (PL.bfs n d.J))) (by rw [List.length_map]; exact hC) (by rw [List.length_map]; have := difs_len d.P (PL.bfs n d.J) n; omega) (by rw [← hB3]; exact hKc.size)
  have HB3 : Hid (wb.heap.size = B3) := hB3
  have hBB3 : B < B3 := by rw [← hB3]; exact hcp.lt
  clear hC hfin hPb hB3
  go_wp2_with fail
  refine hsort.mono ?_
  rintro e wd ⟨rfl, C, hperm, hsrt, hownC, hKd⟩
  clear hsort
  have hK5 : Kp B3 [] wb wd := hKc.trans hKd
  have hK6 : Kp B [] w wd := hK4.trans (hK5.mono (by omega) (by simp))
  have hPd := HP.out.kp (by rw [HB.out]; exact hK6)
  have hstd := HST.out.kp hK6 hpl (by simp)
  have hcpd := hcp.kp hK5 (by omega) (by simp)
  have m3 := hstd.cell (i := 3) rfl
  have m4 := hstd.cell (i := 4) rfl
  have m5 := hstd.cell (i := 5) rfl
  have n3 := hstd.frozen 3
  have n4 := hstd.frozen 4
  have n5 := hstd.frozen 5
  obtain ⟨W9, hW9⟩ : ∃ W9, ((wd.setCell ⟨p, 3, none⟩ (.slice (some ⟨B, 0, none⟩) n gc)).setCell ⟨p, 4, none⟩ (.slice (some ⟨b.pb, 0, none⟩) n b.pc)).setCell ⟨p, 5, none⟩ (.slice qa ql qcp) = W9 := ⟨_, rfl⟩
  have HW9 : Hid (((wd.setCell ⟨p, 3, none⟩ (.slice (some ⟨B, 0, none⟩) n gc)).setCell ⟨p, 4, none⟩ (.slice (some ⟨b.pb, 0, none⟩) n b.pc)).setCell ⟨p, 5, none⟩ (.slice qa ql qcp) = W9) := hW9
  have HPOST : Hid (WalkPost w p n d b (.returned u10) W9) := by
    have hoth : ∀ {c : Nat} {e : TypeId} {xs : List Value}, Row wd c e xs → c ≠ p → Row W9 c e xs := fun hr hne => by rw [← hW9]; exact ((hr.setOther hne _).setOther hne _).setOther hne _
    have hmap : ∀ {κ : Type} {E : κ → Value} {k c m : Nat} {f : κ → Option Int}, MapAt E wd k c m f → c ≠ p → MapAt E W9 k c m f := fun hr hne => by
      rw [← hW9]
      exact ((hr.kept (grown_set _ _ _ _) (by simpa using hne)).kept (grown_set _ _ _ _) (by simpa using hne)).kept (grown_set _ _ _ _) (by simpa using hne)
    have hKw : Kp B [p] w W9 := by
      rw [← hW9]
      exact (((hK6.mono (Nat.le_refl _) (by simp)).setCell (.inr (by simp)) _).setCell (.inr (by simp)) _).setCell (.inr (by simp)) _
    obtain ⟨csn, hcsn, hN⟩ := hPd.nodes
    refine ⟨u10, .slice (some ⟨b.pb, 0, none⟩) n b.pc, .slice qa ql qcp, B, gc, C, rfl, ⟨?_, ⟨csn, hoth hcsn (Ne.symm hd1), hN⟩, ⟨cp, hoth hcpd (by show B ≠ p; omega), hPA, hcl, hg1, hg2⟩, hmap hPd.num (Ne.symm hd2), hPd.lk0, fun k g hk hg => hmap (hPd.lk1 k g hk hg) (HD.out.1 k g hk hg), hPd.jn0, fun k g hk hg => hoth (hPd.jn1 k g hk hg) (HD.out.2 k g hk hg)⟩, by rw [HB.out]; exact Nat.le_refl _, hperm, hsrt, ?_, by rw [HB.out]; exact hKw⟩
    · rw [← hW9]
      exact ((hstd.set 3 _).set 4 _).set 5 _
    · rw [HB.out, ← hW9]
      exact owns_base (ownsRow_setCell_below (ownsRow_setCell_below (ownsRow_setCell_below hownC (a := ⟨p, 3, none⟩) (by show p < B3; omega) _) (a := ⟨p, 4, none⟩) (by show p < B3; omega) _) (a := ⟨p, 5, none⟩) (by show p < B3; omega) _) (by omega)
  clear hperm hsrt hownC hKd hK5 hK6 hPd hstd hcpd hcp hPA hcl hKc hK4 hW9
  go_wp2
  go_ret
  rw [HW9.out]
  exact HPOST.out
end Go.Proofs.Qxb6600010a
