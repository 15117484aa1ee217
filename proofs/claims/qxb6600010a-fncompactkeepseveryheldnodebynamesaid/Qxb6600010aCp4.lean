/-
  compact: ITS LAST LOOP.
-/
import Derived.Test.Qxb6600010aCp1
namespace Go.Proofs.Qxb6600010a
open Go.RowKit
set_option linter.unusedVariables false
set_option linter.unusedSimpArgs false
attribute [local go_sem ↓] Go.wp_at_zero Go.wp_at_succ

set_option maxHeartbeats 20000000 in
set_option maxRecDepth 1000000 in
theorem compact_loop4 {c0 c1 c3 c4 c6 c7 c8 c9 c10 c11 c12 c13 c14 c15 c16 c17 c18 c19 c20 c21 c22 c23 c24 c25 c26 c27 c28 c29 c30 c31 c32 c33 c34 c35 c36 c37 c38 c39 c40 c41 c42 c43 c44 c45 c46 c47 c48 c49 c50 c51 c52 c53 c54 c55 c56 c57 c58 c59 c60 c61 c62 c63 c64 c65 c66 c67 c68 c69 c70 c71 c72 c73 c74 c75 c76 c77 c78 c79 c80 c81 c82 c83 c84 c85 c86 c87 c88 c89 c90 c91 c92 c93 c94 c95 c96 c97 c98 c99 c100 c101 c102 c103 c104 c105 c106 c107 c108 c109 c110 c111 c112 c113 c114 c115 c119 c120 c121 c122 c123 c124 c125 c126 c127 c128 c129 c130 c131 c132 c133 c134 c135 c136 c137 c138 c139 c140 c141 c142 c143 c144 c145 c146 c147 c148 c149 c150 c151 c152 c153 c154 c155 c156 c157 c158 c159 c160 c161 c162 : Value} {K : Act → World → Prop} {R : Ending → World → Prop} (w4 : World) (n hn B rb pb : Nat) (rn : Nat → Nat) (G : Nat → PT) (hn1 : n ≤ 65536) (hhn : hn ≤ 65536) (HB : Hid (w4.heap.size = B)) (hr : Row w4 rb 3 (nats (tab n rn))) (hrp : rb ≠ pb) (HG : Hid (∀ j, j < hn → (G j).via < n ∧ (G j).prev < n)) (h1 : ∃ cp, Row w4 pb 70 cp ∧ PAt cp hn G ∧ cp.length = hn * 3)
    (HX : Hid (∀ (u7 u8 u9 u10 u11 u12 u13 u14 u15 u16 u17 u18 u19 u20 u21 u22 u23 u24 u25 u26 u27 u28 u29 u30 u31 u32 u33 u34 u35 u36 u37 u38 u39 u40 u41 u42 u43 u44 u45 u46 u47 u48 u49 u50 u51 u52 u53 u54 u55 u56 u57 u58 u59 u60 u61 u62 u63 u64 u65 u66 u67 u68 u69 u70 u71 u72 u73 u74 u75 u76 u77 u78 u79 u80 u81 u82 u83 u84 u85 u86 u87 u88 u89 u90 u91 u92 u93 u94 u95 u96 u97 u98 u99 u100 u101 u102 u103 u104 u105 u106 u107 u108 u109 u110 u111 u112 u113 u114 u115 u116 u117 u118 u119 u120 u121 u122 u123 u124 u125 u126 u127 u128 u129 u130 u131 u132 u133 u134 u135 u136 u137 u138 u139 u140 u141 u142 u143 u144 u145 u146 u147 u148 u149 u150 u151 u152 u153 u154 u155 u156 u157 u158 u159 u160 u161 u162 : Value) (w' : World), ((∃ cp, Row w' pb 70 cp ∧ PAt cp hn (fun j => ⟨rn (G j).via, rn (G j).prev, (G j).hops⟩) ∧ cp.length = hn * 3) ∧ Kp B [pb] w4 w') → K ⟨List.toArray (c0 :: c1 :: (Value.slice (some ⟨rb, 0, none⟩) n n) :: c3 :: c4 :: (Value.slice (some ⟨pb, 0, none⟩) hn hn) :: c6 :: u7 :: u8 :: u9 :: u10 :: u11 :: u12 :: u13 :: u14 :: u15 :: u16 :: u17 :: u18 :: u19 :: u20 :: u21 :: u22 :: u23 :: u24 :: u25 :: u26 :: u27 :: u28 :: u29 :: u30 :: u31 :: u32 :: u33 :: u34 :: u35 :: u36 :: u37 :: u38 :: u39 :: u40 :: u41 :: u42 :: u43 :: u44 :: u45 :: u46 :: u47 :: u48 :: u49 :: u50 :: u51 :: u52 :: u53 :: u54 :: u55 :: u56 :: u57 :: u58 :: u59 :: u60 :: u61 :: u62 :: u63 :: u64 :: u65 :: u66 :: u67 :: u68 :: u69 :: u70 :: u71 :: u72 :: u73 :: u74 :: u75 :: u76 :: u77 :: u78 :: u79 :: u80 :: u81 :: u82 :: u83 :: u84 :: u85 :: u86 :: u87 :: u88 :: u89 :: u90 :: u91 :: u92 :: u93 :: u94 :: u95 :: u96 :: u97 :: u98 :: u99 :: u100 :: u101 :: u102 :: u103 :: u104 :: u105 :: u106 :: u107 :: u108 :: u109 :: u110 :: u111 :: u112 :: u113 :: u114 :: u115 :: u116 :: u117 :: u118 :: u119 :: u120 :: u121 :: u122 :: u123 :: u124 :: u125 :: u126 :: u127 :: u128 :: u129 :: u130 :: u131 :: u132 :: u133 :: u134 :: u135 :: u136 :: u137 :: u138 :: u139 :: u140 :: u141 :: u142 :: u143 :: u144 :: u145 :: u146 :: u147 :: u148 :: u149 :: u150 :: u151 :: u152 :: u153 :: u154 :: u155 :: u156 :: u157 :: u158 :: u159 :: u160 :: u161 :: u162 :: []), []⟩ w')) :
    Code.wp Try.prog (Code.loop (loopNo 3 Try.f47)) (Exit.inBlock 6 (Exit.then K (bodyPost Try.prog Try.f47 R))) ⟨List.toArray (c0 :: c1 :: (Value.slice (some ⟨rb, 0, none⟩) n n) :: c3 :: c4 :: (Value.slice (some ⟨pb, 0, none⟩) hn hn) :: c6 :: c7 :: c8 :: c9 :: c10 :: c11 :: c12 :: c13 :: c14 :: c15 :: c16 :: c17 :: c18 :: c19 :: c20 :: c21 :: c22 :: c23 :: c24 :: c25 :: c26 :: c27 :: c28 :: c29 :: c30 :: c31 :: c32 :: c33 :: c34 :: c35 :: c36 :: c37 :: c38 :: c39 :: c40 :: c41 :: c42 :: c43 :: c44 :: c45 :: c46 :: c47 :: c48 :: c49 :: c50 :: c51 :: c52 :: c53 :: c54 :: c55 :: c56 :: c57 :: c58 :: c59 :: c60 :: c61 :: c62 :: c63 :: c64 :: c65 :: c66 :: c67 :: c68 :: c69 :: c70 :: c71 :: c72 :: c73 :: c74 :: c75 :: c76 :: c77 :: c78 :: c79 :: c80 :: c81 :: c82 :: c83 :: c84 :: c85 :: c86 :: c87 :: c88 :: c89 :: c90 :: c91 :: c92 :: c93 :: c94 :: c95 :: c96 :: c97 :: c98 :: c99 :: c100 :: c101 :: c102 :: c103 :: c104 :: c105 :: c106 :: c107 :: c108 :: c109 :: c110 :: c111 :: c112 :: c113 :: c114 :: c115 :: (Value.slice (some ⟨pb, 0, none⟩) hn hn) :: (Value.int IntKind.i64 (hn : Int)) :: (Value.int IntKind.i64 (0 : Int)) :: c119 :: c120 :: c121 :: c122 :: c123 :: c124 :: c125 :: c126 :: c127 :: c128 :: c129 :: c130 :: c131 :: c132 :: c133 :: c134 :: c135 :: c136 :: c137 :: c138 :: c139 :: c140 :: c141 :: c142 :: c143 :: c144 :: c145 :: c146 :: c147 :: c148 :: c149 :: c150 :: c151 :: c152 :: c153 :: c154 :: c155 :: c156 :: c157 :: c158 :: c159 :: c160 :: c161 :: c162 :: []), []⟩ w4 := by
  conv => arg 2; arg 1; whnf
  have hpl : pb < B := by obtain ⟨cp, h, _⟩ := h1; rw [← HB.out]; exact h.lt
  have hrl : rb < B := by rw [← HB.out]; exact hr.lt
  have HR : Hid (Row w4 rb 3 (nats (tab n rn))) := hr
  clear hr
  go_loopg [118] hn (fun g s wr => ∃ (k : Nat), g = hn - k ∧ k ≤ hn ∧ s = .int .i64 k ∧ (∃ cp, Row wr pb 70 cp ∧ PAt cp hn (fun j => if j < k then ⟨rn (G j).via, rn (G j).prev, (G j).hops⟩ else G j) ∧ cp.length = hn * 3) ∧ Kp B [pb] w4 wr)
  case atStart =>
    obtain ⟨cp, h2, h3, h4⟩ := h1
    exact ⟨0, rfl, by omega, rfl, ⟨cp, h2, h3.congr (fun j hj => by rw [if_neg (by omega)]), h4⟩, Kp.refl _ _ _⟩
  case round =>
    clear h1
    rename World => wa
    obtain ⟨k, rfl, hk, rfl, ⟨cp, hcp, hPA, hcl⟩, hK⟩ := hrel
    by_cases hkn : k < hn
    · have a0 := hcp.cell (hPA.via k hkn)
      have a1 := hcp.cell (hPA.prev k hkn)
      have a2 := hcp.cell (hPA.hops k hkn)
      simp only [Nat.lt_irrefl, if_false] at a0 a1 a2
      obtain ⟨g1, g2⟩ := HG.out k hkn
      obtain ⟨q, hq⟩ : ∃ q, G k = q := ⟨_, rfl⟩
      rw [hq] at a0 a1 a2 g1 g2
      have HQ : Hid (G k = q) := hq
      have hBa : B ≤ wa.heap.size := by rw [← HB.out]; exact hK.size
      clear hq
      go_upto_region 28 with fail
      obtain ⟨kb, hkb⟩ : ∃ kb, wa.heap.size = kb := ⟨_, rfl⟩
      have hnd := row_new wa [Value.int IntKind.i64 (q.via : Int), Value.int IntKind.i64 (q.prev : Int), Value.int IntKind.i64 (q.hops : Int)] 70
      have hcp1 := hcp.alloc (Obj.cells #[Value.int IntKind.i64 (q.via : Int), Value.int IntKind.i64 (q.prev : Int), Value.int IntKind.i64 (q.hops : Int)] 70)
      have hK1 := hK.alloc hBa (Obj.cells #[Value.int IntKind.i64 (q.via : Int), Value.int IntKind.i64 (q.prev : Int), Value.int IntKind.i64 (q.hops : Int)] 70)
      rw [hkb] at hnd hBa ⊢
      generalize wa.alloc (Obj.cells #[Value.int IntKind.i64 (q.via : Int), Value.int IntKind.i64 (q.prev : Int), Value.int IntKind.i64 (q.hops : Int)] 70) = w1 at *
      clear a0 a1 a2 hkb
      have b0 := hnd.cell (i := 0) rfl
      have b1 := hnd.cell (i := 1) rfl
      have hr1 := HR.out.kp hK1 hrl (by simpa using hrp)
      have r0 := hr1.cell (nats_at (tab_at n q.via rn g1))
      have r1 := hr1.cell (nats_at (tab_at n q.prev rn g2))
      have a0 := hcp1.cell (hPA.via k hkn)
      have a1 := hcp1.cell (hPA.prev k hkn)
      simp only [Nat.lt_irrefl, if_false, HQ.out] at a0 a1
      have f0 := hcp1.frozen (k * 3)
      have f1 := hcp1.frozen (k * 3 + 1)
      have HZ : Hid (∃ cp', Row ((w1.setCell ⟨pb, k * 3, none⟩ (.int .i64 (rn q.via : Int))).setCell ⟨pb, k * 3 + 1, none⟩ (.int .i64 (rn q.prev : Int))).drew pb 70 cp' ∧ PAt cp' hn (fun j => if j < k + 1 then ⟨rn (G j).via, rn (G j).prev, (G j).hops⟩ else G j) ∧ cp'.length = hn * 3) := by
        refine ⟨_, ((hcp1.set (k * 3) _).set (k * 3 + 1) _).drew, ?_, by simpa using hcl⟩
        have hl := hPA.len
        refine ⟨by simpa using hPA.len, fun j hj => ?_, fun j hj => ?_, fun j hj => ?_⟩ <;> rw [set_at _ _ _ _ (by simp; omega), set_at _ _ _ _ (by omega)]
        · by_cases e : j = k
          · subst e; rw [if_neg (by omega), if_pos rfl, if_pos (by omega), HQ.out]
          · rw [if_neg (by omega), if_neg (by omega), hPA.via j hj]
            by_cases h : j < k
            · rw [if_pos h, if_pos (by omega)]
            · rw [if_neg h, if_neg (by omega)]
        · by_cases e : j = k
          · subst e; rw [if_pos rfl, if_pos (by omega), HQ.out]
          · rw [if_neg (by omega), if_neg (by omega), hPA.prev j hj]
            by_cases h : j < k
            · rw [if_pos h, if_pos (by omega)]
            · rw [if_neg h, if_neg (by omega)]
        · rw [if_neg (by omega), if_neg (by omega), hPA.hops j hj]
          by_cases e : j = k
          · subst e; rw [if_neg (by omega), if_pos (by omega)]
          · by_cases h : j < k
            · rw [if_pos h, if_pos (by omega)]
            · rw [if_neg h, if_neg (by omega)]
      have HZK : Hid (Kp B [pb] w4 ((w1.setCell ⟨pb, k * 3, none⟩ (.int .i64 (rn q.via : Int))).setCell ⟨pb, k * 3 + 1, none⟩ (.int .i64 (rn q.prev : Int))).drew) := ((hK1.setCell (.inr (by simp)) _).setCell (.inr (by simp)) _).drew
      have n1 : pb ≠ kb := by omega
      have n2 : kb ≠ pb := by omega
      have n3 : pb ≠ rb := Ne.symm hrp
      generalize rn q.via = x0 at *
      generalize rn q.prev = x1 at *
      generalize q.via = v0 at *
      generalize q.prev = v1 at *
      clear hnd hcp1 hK1 hcp hPA hcl hK hr1 HQ
      go_wp2_with fail
      go_region
      all_goals
        go_wp2
        go_roundg (hn - (k + 1))
        case measure => omega
        case rel => exact ⟨k + 1, rfl, by omega, by go_num, HZ.out, HZK.out⟩
    · have e : hn = k := by omega
      subst e
      have HZ : Hid (∃ cp, Row wa pb 70 cp ∧ PAt cp hn (fun j => ⟨rn (G j).via, rn (G j).prev, (G j).hops⟩) ∧ cp.length = hn * 3) := ⟨cp, hcp, hPA.congr (fun j hj => by rw [if_pos hj]), hcl⟩
      clear hcp hPA hcl
      go_wp2
      apply HX.out
      exact ⟨HZ.out, hK⟩
end Go.Proofs.Qxb6600010a
