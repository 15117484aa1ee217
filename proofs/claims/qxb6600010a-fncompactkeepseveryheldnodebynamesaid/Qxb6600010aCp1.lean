/-
  compact: ITS FIRST LOOP.
-/
import Derived.Test.Qxb6600010aCpP
import Derived.Test.Qxb6600010aNewP
import Derived.Test.Qxb6600010aStateP
import Derived.Test.Qxb6600010aBuildP
import Derived.Deep.AppendLies
import Derived.BigRegion
namespace Go.Proofs.Qxb6600010a
open Go.RowKit
set_option linter.unusedVariables false
set_option linter.unusedSimpArgs false
attribute [local go_sem ↓] Go.wp_at_zero Go.wp_at_succ

theorem hid_mk {p : Prop} (h : p) : Hid p := h
theorem wpList_append_run {P : Program} {w w' : World} {ops : Array Oper} {rest : List Oper} {o : Oper} {a : Act} {Q : Exit → Act → World → Prop} (hgd : o.guard = none) (s x : Operand) (t : TypeId)
    (ho : o.op = .call { callee := .builtin .append, args := #[s, x], argTypes := #[t, t] }) (vs vx v : Value) (hs : a.eval s = vs) (hx : a.eval x = vx)
    (hr : (Builtin.append_ #[t, t] o.type #[vs, vx]).run P w = .ok v w') (h : wpList P ops Q rest (a.put o.dst v) w') : wpList P ops Q (o :: rest) a w :=
  wpList_plain hgd fun _ hK => by
    unfold Oper.wp execOp
    simp only [ho, resolve, invoke, builtin, Sem.run_bind, Sem.run_pure, Result.andThen_ok, List.map_toArray, List.map_cons, List.map_nil, hs, hx, hr]
    exact hK _ _ h
theorem splice_set4 (cs : List Value) (a : Nat) (v0 v1 v2 v3 : Value) (h : a + 4 ≤ cs.length) : cs.take a ++ [v0, v1, v2, v3] ++ cs.drop (a + 4) = (((cs.set a v0).set (a + 1) v1).set (a + 2) v2).set (a + 3) v3 := by
  apply List.ext_getElem?
  intro i
  rw [set_at _ _ _ _ (by simp; omega), set_at _ _ _ _ (by simp; omega), set_at _ _ _ _ (by simp; omega), set_at _ _ _ _ (by omega)]
  have hl : (cs.take a).length = a := by rw [List.length_take]; omega
  by_cases h1 : i < a
  · rw [List.append_assoc, List.getElem?_append_left (by omega), List.getElem?_take, if_pos h1, if_neg (by omega), if_neg (by omega), if_neg (by omega), if_neg (by omega)]
  · rw [List.append_assoc, List.getElem?_append_right (by omega), hl]
    by_cases h2 : i < a + 4
    · obtain ⟨j, rfl⟩ : ∃ j, i = a + j := ⟨i - a, by omega⟩
      rw [show a + j - a = j by omega, List.getElem?_append_left (by simp; omega)]
      match j, h2 with
      | 0, _ => rw [if_neg (by omega), if_neg (by omega), if_neg (by omega), if_pos (by omega)]; rfl
      | 1, _ => rw [if_neg (by omega), if_neg (by omega), if_pos (by omega)]; rfl
      | 2, _ => rw [if_neg (by omega), if_pos (by omega)]; rfl
      | 3, _ => rw [if_pos rfl]; rfl
      | j + 4, hj => omega
    · rw [List.getElem?_append_right (by simp; omega), List.getElem?_drop, if_neg (by omega), if_neg (by omega), if_neg (by omega), if_neg (by omega)]
      congr 1
      simp
      omega
theorem splice_set3 (cs : List Value) (a : Nat) (v0 v1 v2 : Value) (h : a + 3 ≤ cs.length) : cs.take a ++ [v0, v1, v2] ++ cs.drop (a + 3) = ((cs.set a v0).set (a + 1) v1).set (a + 2) v2 := by
  apply List.ext_getElem?
  intro i
  rw [set_at _ _ _ _ (by simp; omega), set_at _ _ _ _ (by simp; omega), set_at _ _ _ _ (by omega)]
  have hl : (cs.take a).length = a := by rw [List.length_take]; omega
  by_cases h1 : i < a
  · rw [List.append_assoc, List.getElem?_append_left (by omega), List.getElem?_take, if_pos h1, if_neg (by omega), if_neg (by omega), if_neg (by omega)]
  · rw [List.append_assoc, List.getElem?_append_right (by omega), hl]
    by_cases h2 : i < a + 3
    · obtain ⟨j, rfl⟩ : ∃ j, i = a + j := ⟨i - a, by omega⟩
      rw [show a + j - a = j by omega, List.getElem?_append_left (by simp; omega)]
      match j, h2 with
      | 0, _ => rw [if_neg (by omega), if_neg (by omega), if_pos (by omega)]; rfl
      | 1, _ => rw [if_neg (by omega), if_pos (by omega)]; rfl
      | 2, _ => rw [if_pos rfl]; rfl
      | j + 3, hj => omega
    · rw [List.getElem?_append_right (by simp; omega), List.getElem?_drop, if_neg (by omega), if_neg (by omega), if_neg (by omega)]
      congr 1
      simp
      omega
theorem setRow_row {W : World} {g : Nat} {e : TypeId} {cs cs' : List Value} (h : Row W g e cs) : Row (W.setRow g cs'.toArray) g e cs' ∧ W.grownBy (W.setRow g cs'.toArray) (some g) :=
  ⟨by unfold Row; exact setRow_heap W g _ _ e _ h, ⟨rfl, rfl, rfl, by simp [World.setRow], fun k hk hne => setRow_other W g k _ (fun e => hne (by rw [e]))⟩⟩
/-- A node is appended where there is room. -/
theorem push_node (W : World) (ty nb c hn ab : Nat) (cs : List Value) (v0 v1 v2 v3 : Value) (hr : Row W nb 79 cs) (hl : cs.length = hn * 4) (hc : c < hn) (ha : Row W ab 79 [v0, v1, v2, v3]) (h1 : ∀ u ∈ [v0, v1, v2, v3], u.oneCell' = true) :
    ∃ W2, (Builtin.append_ #[71, 71] ty #[.slice (some ⟨nb, 0, none⟩) c hn, .slice (some ⟨ab, 0, none⟩) 1 1]).run Try.prog W = .ok (.slice (some ⟨nb, 0, none⟩) (c + 1) hn) W2 ∧ Row W2 nb 79 ((((cs.set (c * 4) v0).set (c * 4 + 1) v1).set (c * 4 + 2) v2).set (c * 4 + 3) v3) ∧ W.grownBy W2 (some nb) := by
  obtain ⟨i, hi, hzz⟩ := Option.map_eq_some_iff.1 info79
  simp only [Prod.mk.injEq] at hzz
  obtain ⟨hz, hs, hb⟩ := hzz
  have hrun := run_append_room (P := Try.prog) W 71 ty 79 i Try.underlying71 hi nb c hn cs.toArray hr ⟨ab, 0, none⟩ 1 1 [v0, v1, v2, v3] (by rw [hs]; rfl) (World.news_of_block ha) h1 (by omega) (by rw [hs]; simp; omega)
  rw [hs] at hrun
  have e := splice_set4 cs (c * 4) v0 v1 v2 v3 (by omega)
  refine ⟨_, hrun, ?_⟩
  have h2 := setRow_row (cs' := cs.take (c * 4) ++ [v0, v1, v2, v3] ++ cs.drop (c * 4 + 4)) hr
  rw [e] at h2
  have e2 : (cs.toArray.toList.take (c * 4) ++ [v0, v1, v2, v3] ++ cs.toArray.toList.drop (c * 4 + [v0, v1, v2, v3].length)) = (((cs.set (c * 4) v0).set (c * 4 + 1) v1).set (c * 4 + 2) v2).set (c * 4 + 3) v3 := e
  rw [e2]
  exact h2
theorem push_path (W : World) (ty nb c hn ab : Nat) (cs : List Value) (v0 v1 v2 : Value) (hr : Row W nb 70 cs) (hl : cs.length = hn * 3) (hc : c < hn) (ha : Row W ab 70 [v0, v1, v2]) (h1 : ∀ u ∈ [v0, v1, v2], u.oneCell' = true) :
    ∃ W2, (Builtin.append_ #[73, 73] ty #[.slice (some ⟨nb, 0, none⟩) c hn, .slice (some ⟨ab, 0, none⟩) 1 1]).run Try.prog W = .ok (.slice (some ⟨nb, 0, none⟩) (c + 1) hn) W2 ∧ Row W2 nb 70 (((cs.set (c * 3) v0).set (c * 3 + 1) v1).set (c * 3 + 2) v2) ∧ W.grownBy W2 (some nb) := by
  obtain ⟨i, hi, hzz⟩ := Option.map_eq_some_iff.1 info70
  simp only [Prod.mk.injEq] at hzz
  obtain ⟨hz, hs, hb⟩ := hzz
  have hrun := run_append_room (P := Try.prog) W 73 ty 70 i Try.underlying73 hi nb c hn cs.toArray hr ⟨ab, 0, none⟩ 1 1 [v0, v1, v2] (by rw [hs]; rfl) (World.news_of_block ha) h1 (by omega) (by rw [hs]; simp; omega)
  rw [hs] at hrun
  have e := splice_set3 cs (c * 3) v0 v1 v2 (by omega)
  refine ⟨_, hrun, ?_⟩
  have h2 := setRow_row (cs' := cs.take (c * 3) ++ [v0, v1, v2] ++ cs.drop (c * 3 + 3)) hr
  rw [e] at h2
  have e2 : (cs.toArray.toList.take (c * 3) ++ [v0, v1, v2] ++ cs.toArray.toList.drop (c * 3 + [v0, v1, v2].length)) = ((cs.set (c * 3) v0).set (c * 3 + 1) v1).set (c * 3 + 2) v2 := e
  rw [e2]
  exact h2
/-- What compact's first loop fills: the new numbers at rb, the nodes at nb, the paths at pb, the numbers by name at mb, k nodes in. -/
structure Cp1 (w w0 : World) (n hn rb nb pb mb B : Nat) (d : PD) (b : PB) (k : Nat) : Prop where
  r : Row w rb 3 (nats (tab n (pre k (PL.rnF (hB d)) 0)))
  z : ZAt w nb pb mb hn (pre (PL.ncOf (hB d) k) (fun j => d.nm (PL.hidx (hB d) n j)) ⟨#[]⟩) (pre (PL.ncOf (hB d) k) (fun j => .map (b.lk (PL.hidx (hB d) n j))) (.map none)) (pre (PL.ncOf (hB d) k) (fun j => jval (b.jb (PL.hidx (hB d) n j)) (d.J (PL.hidx (hB d) n j)).length) (.slice none 0 0)) (pre (PL.ncOf (hB d) k) (fun j => d.ls (PL.hidx (hB d) n j)) 0) (pre (PL.ncOf (hB d) k) (fun j => d.P (PL.hidx (hB d) n j)) pt0) (PL.ncOf (hB d) k) (PL.numC (hB d) d.nm k)
  kp : Kp B [] w0 w
set_option maxHeartbeats 20000000 in
set_option maxRecDepth 1000000 in
theorem compact_loop1 {c1 c3 c7 c8 c9 c10 c11 c12 c13 c14 c15 c16 c17 c18 c19 c20 c21 c22 c23 c24 c25 c26 c27 c28 c29 c30 c31 c32 c33 c34 c35 c36 c37 c38 c39 c43 c44 c45 c46 c47 c48 c49 c50 c51 c52 c53 c54 c55 c56 c57 c58 c59 c60 c61 c62 c63 c64 c65 c66 c67 c68 c69 c70 c71 c72 c73 c74 c75 c76 c77 c78 c79 c80 c81 c82 c83 c84 c85 c86 c87 c88 c89 c90 c91 c92 c93 c94 c95 c96 c97 c98 c99 c100 c101 c102 c103 c104 c105 c106 c107 c108 c109 c110 c111 c112 c113 c114 c115 c116 c117 c118 c119 c120 c121 c122 c123 c124 c125 c126 c127 c128 c129 c130 c131 c132 c133 c134 c135 c136 c137 c138 c139 c140 c141 c142 c143 c144 c145 c146 c147 c148 c149 c150 c151 c152 c153 c154 c155 c156 c157 c158 c159 c160 c161 c162 : Value} {K : Act → World → Prop} {R : Ending → World → Prop} (w0 w4 : World) (p n hn B rb nb pb mb : Nat) (d : PD) (b : PB) (hn0 : 0 < n) (hn1 : n ≤ 65536) (HB : Hid (w0.heap.size = B)) (HP : Hid (PsAt w0 p n d b)) (HHN : Hid (PL.ncOf (hB d) n = hn)) (HA : Hid (∀ i j, i < n → j < n → d.nm i = d.nm j → i = j)) (HSZ : Hid (∀ k, (d.nm k).size ≤ maxLen))
    (hrb : B ≤ rb) (hnb : B ≤ nb) (hpb : B ≤ pb) (hmb : B ≤ mb) (e1 : rb ≠ nb) (e2 : rb ≠ pb) (e3 : rb ≠ mb) (e4 : nb ≠ pb) (e5 : nb ≠ mb) (e6 : pb ≠ mb) (h1 : Cp1 w4 w0 n hn rb nb pb mb B d b (0))
    (HX : Hid (∀ (u4 u5 u7 u8 u9 u10 u11 u12 u13 u14 u15 u16 u17 u18 u19 u20 u21 u22 u23 u24 u25 u26 u27 u28 u29 u30 u31 u32 u33 u34 u35 u36 u37 u38 u39 u40 u41 u42 u43 u44 u45 u46 u47 u48 u49 u50 u51 u52 u53 u54 u55 u56 u57 u58 u59 u60 u61 u62 u63 u64 u65 u66 u67 u68 u69 u70 u71 u72 u73 u74 u75 u76 u77 u78 u79 u80 u81 u82 u83 u84 u85 u86 u87 u88 u89 u90 u91 u92 u93 u94 u95 u96 u97 u98 u99 u100 u101 u102 u103 u104 u105 u106 u107 u108 u109 u110 u111 u112 u113 u114 u115 u116 u117 u118 u119 u120 u121 u122 u123 u124 u125 u126 u127 u128 u129 u130 u131 u132 u133 u134 u135 u136 u137 u138 u139 u140 u141 u142 u143 u144 u145 u146 u147 u148 u149 u150 u151 u152 u153 u154 u155 u156 u157 u158 u159 u160 u161 u162 : Value) (w' : World), Cp1 w' w0 n hn rb nb pb mb B d b (n) ∧ u4 = .slice (some ⟨nb, 0, none⟩) hn hn ∧ u5 = .slice (some ⟨pb, 0, none⟩) hn hn → K ⟨List.toArray ((Value.pointer (some ⟨p, 0, none⟩)) :: c1 :: (Value.slice (some ⟨rb, 0, none⟩) n n) :: c3 :: u4 :: u5 :: (Value.map (some mb)) :: u7 :: u8 :: u9 :: u10 :: u11 :: u12 :: u13 :: u14 :: u15 :: u16 :: u17 :: u18 :: u19 :: u20 :: u21 :: u22 :: u23 :: u24 :: u25 :: u26 :: u27 :: u28 :: u29 :: u30 :: u31 :: u32 :: u33 :: u34 :: u35 :: u36 :: u37 :: u38 :: u39 :: u40 :: u41 :: u42 :: u43 :: u44 :: u45 :: u46 :: u47 :: u48 :: u49 :: u50 :: u51 :: u52 :: u53 :: u54 :: u55 :: u56 :: u57 :: u58 :: u59 :: u60 :: u61 :: u62 :: u63 :: u64 :: u65 :: u66 :: u67 :: u68 :: u69 :: u70 :: u71 :: u72 :: u73 :: u74 :: u75 :: u76 :: u77 :: u78 :: u79 :: u80 :: u81 :: u82 :: u83 :: u84 :: u85 :: u86 :: u87 :: u88 :: u89 :: u90 :: u91 :: u92 :: u93 :: u94 :: u95 :: u96 :: u97 :: u98 :: u99 :: u100 :: u101 :: u102 :: u103 :: u104 :: u105 :: u106 :: u107 :: u108 :: u109 :: u110 :: u111 :: u112 :: u113 :: u114 :: u115 :: u116 :: u117 :: u118 :: u119 :: u120 :: u121 :: u122 :: u123 :: u124 :: u125 :: u126 :: u127 :: u128 :: u129 :: u130 :: u131 :: u132 :: u133 :: u134 :: u135 :: u136 :: u137 :: u138 :: u139 :: u140 :: u141 :: u142 :: u143 :: u144 :: u145 :: u146 :: u147 :: u148 :: u149 :: u150 :: u151 :: u152 :: u153 :: u154 :: u155 :: u156 :: u157 :: u158 :: u159 :: u160 :: u161 :: u162 :: []), []⟩ w')) :
    Code.wp Try.prog (Code.loop (loopNo 0 Try.f47)) (Exit.inBlock 0 (Exit.then K (bodyPost Try.prog Try.f47 R))) ⟨List.toArray ((Value.pointer (some ⟨p, 0, none⟩)) :: c1 :: (Value.slice (some ⟨rb, 0, none⟩) n n) :: c3 :: (Value.slice (some ⟨nb, 0, none⟩) 0 hn) :: (Value.slice (some ⟨pb, 0, none⟩) 0 hn) :: (Value.map (some mb)) :: c7 :: c8 :: c9 :: c10 :: c11 :: c12 :: c13 :: c14 :: c15 :: c16 :: c17 :: c18 :: c19 :: c20 :: c21 :: c22 :: c23 :: c24 :: c25 :: c26 :: c27 :: c28 :: c29 :: c30 :: c31 :: c32 :: c33 :: c34 :: c35 :: c36 :: c37 :: c38 :: c39 :: (Value.slice (some ⟨b.nb, 0, none⟩) n n) :: (Value.int IntKind.i64 (n : Int)) :: (Value.int IntKind.i64 (0 : Int)) :: c43 :: c44 :: c45 :: c46 :: c47 :: c48 :: c49 :: c50 :: c51 :: c52 :: c53 :: c54 :: c55 :: c56 :: c57 :: c58 :: c59 :: c60 :: c61 :: c62 :: c63 :: c64 :: c65 :: c66 :: c67 :: c68 :: c69 :: c70 :: c71 :: c72 :: c73 :: c74 :: c75 :: c76 :: c77 :: c78 :: c79 :: c80 :: c81 :: c82 :: c83 :: c84 :: c85 :: c86 :: c87 :: c88 :: c89 :: c90 :: c91 :: c92 :: c93 :: c94 :: c95 :: c96 :: c97 :: c98 :: c99 :: c100 :: c101 :: c102 :: c103 :: c104 :: c105 :: c106 :: c107 :: c108 :: c109 :: c110 :: c111 :: c112 :: c113 :: c114 :: c115 :: c116 :: c117 :: c118 :: c119 :: c120 :: c121 :: c122 :: c123 :: c124 :: c125 :: c126 :: c127 :: c128 :: c129 :: c130 :: c131 :: c132 :: c133 :: c134 :: c135 :: c136 :: c137 :: c138 :: c139 :: c140 :: c141 :: c142 :: c143 :: c144 :: c145 :: c146 :: c147 :: c148 :: c149 :: c150 :: c151 :: c152 :: c153 :: c154 :: c155 :: c156 :: c157 :: c158 :: c159 :: c160 :: c161 :: c162 :: []), []⟩ w4 := by
  conv => arg 2; arg 1; whnf
  obtain ⟨h1r, h1z, h1k⟩ := h1
  go_loopg [4, 5, 42] n (fun g v4 v5 s wr => ∃ (k : Nat), g = n - k ∧ k ≤ n ∧ s = .int .i64 k ∧ v4 = .slice (some ⟨nb, 0, none⟩) (PL.ncOf (hB d) k) hn ∧ v5 = .slice (some ⟨pb, 0, none⟩) (PL.ncOf (hB d) k) hn ∧ Cp1 wr w0 n hn rb nb pb mb B d b k)
  case atStart => exact ⟨0, rfl, by omega, rfl, rfl, rfl, ⟨h1r, h1z, h1k⟩⟩
  case round =>
    clear h1r h1z h1k
    rename World => wa
    obtain ⟨k, rfl, hk, rfl, rfl, rfl, hC⟩ := hrel
    by_cases hkn : k < n
    · have hPa := HP.out.kp (by rw [HB.out]; exact hC.kp)
      have hBa : B ≤ wa.heap.size := by rw [← HB.out]; exact hC.kp.size
      obtain ⟨cs, hcs, hN⟩ := hPa.nodes
      have a0 := hcs.cell (hN.nm k hkn)
      have a1 := hcs.cell (hN.lk k hkn)
      have a2 := hcs.cell (hN.jv k hkn)
      have a3 := hcs.cell (hN.ls k hkn)
      obtain ⟨ao, hja, _⟩ := jval_form (w := wa) (hPa.jn0 k hkn) (hPa.jn1 k · hkn)
      rw [hja] at a2
      have HJA : Hid (jval (b.jb k) (d.J k).length = .slice ao (d.J k).length (d.J k).length) := hja
      obtain ⟨nm, hnm⟩ : ∃ x, d.nm k = x := ⟨_, rfl⟩
      obtain ⟨lk, hlk⟩ : ∃ x, b.lk k = x := ⟨_, rfl⟩
      obtain ⟨jl, hjl⟩ : ∃ x, (d.J k).length = x := ⟨_, rfl⟩
      obtain ⟨ls, hls⟩ : ∃ x, d.ls k = x := ⟨_, rfl⟩
      rw [hnm] at a0
      rw [hlk] at a1
      rw [hjl] at a2 HJA
      rw [hls] at a3
      have HNM : Hid (d.nm k = nm) := hnm
      have HJL : Hid ((d.J k).length = jl) := hjl
      have HLK : Hid (b.lk k = lk) := hlk
      have HLS : Hid (d.ls k = ls) := hls
      have HCC : Hid (Cp1 wa w0 n hn rb nb pb mb B d b k) := hC
      have hck := PL.ncOf_le (hB d) k
      obtain ⟨c, hc⟩ : ∃ c, PL.ncOf (hB d) k = c := ⟨_, rfl⟩
      rw [hc] at hck
      have HCN : Hid (PL.ncOf (hB d) k = c) := hc
      rw [hc]
      clear hPa hcs hN hja hnm hlk hjl hls hC hc
      go_upto_region 8 with fail
      obtain ⟨kb, hkb⟩ : ∃ kb, wa.heap.size = kb := ⟨_, rfl⟩
      have hnd := row_new wa [Value.string nm, Value.map lk, Value.slice ao jl jl, Value.int IntKind.i64 (ls : Int)] 79
      have hK1 : Kp kb [] wa (wa.alloc (Obj.cells #[Value.string nm, Value.map lk, Value.slice ao jl jl, Value.int IntKind.i64 (ls : Int)] 79)) := by rw [← hkb]; exact (Kp.refl _ _ _).alloc (Nat.le_refl _) _
      have hs1 : (wa.alloc (Obj.cells #[Value.string nm, Value.map lk, Value.slice ao jl jl, Value.int IntKind.i64 (ls : Int)] 79)).heap.size = kb + 1 := by rw [World.size_alloc, hkb]
      rw [hkb] at hnd hBa ⊢
      generalize wa.alloc (Obj.cells #[Value.string nm, Value.map lk, Value.slice ao jl jl, Value.int IntKind.i64 (ls : Int)] 79) = w1 at *
      have HKB : Hid (wa.heap.size = kb) := hkb
      have hk01 : Kp B [] w0 w1 := HCC.out.kp.trans (hK1.mono hBa (by simp))
      have hz1 := HCC.out.z.kp (w' := w1) (Bx := kb) hK1 (by obtain ⟨cs, h1, _⟩ := HCC.out.z.nodes; rw [← hkb]; exact h1.lt) (by obtain ⟨cs, h1, _⟩ := HCC.out.z.paths; rw [← hkb]; exact h1.lt) (by rw [← hkb]; exact HCC.out.z.num.lt) (by simp) (by simp) (by simp)
      have hr1 := HCC.out.r.kp hK1 (by rw [← hkb]; exact HCC.out.r.lt) (by simp)
      have hcall := held_any w1 p n k d b (HP.out.kp (by rw [HB.out]; exact hk01)) hkn hn1
      obtain ⟨hv, hhv⟩ : ∃ hv, hB d k = hv := ⟨_, rfl⟩
      rw [hhv] at hcall
      have HHV : Hid (hB d k = hv) := hhv
      have k1 : rb < kb := by rw [← HKB.out]; exact HCC.out.r.lt
      have k2 : nb < kb := by obtain ⟨cs, h1, _⟩ := HCC.out.z.nodes; rw [← HKB.out]; exact h1.lt
      have k3 : pb < kb := by obtain ⟨cs, h1, _⟩ := HCC.out.z.paths; rw [← HKB.out]; exact h1.lt
      have k4 : mb < kb := by rw [← HKB.out]; exact HCC.out.z.num.lt
      clear a0 a1 a2 a3 hK1 hkb hhv HCC
      go_wp2_with fail
      refine hcall.mono ?_
      rintro e w1' ⟨rfl, hw1'⟩
      rw [hw1']
      clear hcall hw1'
      have hns := PL.ncOf_succ (hB d) k
      rw [HHV.out, HCN.out] at hns
      have HNS : Hid (PL.ncOf (hB d) (k + 1) = c + if hv = true then 1 else 0) := hns
      clear hns
      cases hv with
      | false =>
        have HC' : Hid (Cp1 w1 w0 n hn rb nb pb mb B d b (k + 1)) := by
          refine ⟨?_, ?_, hk01⟩
          · rw [← tab_stay n k _ _ (by unfold PL.rnF; rw [HHV.out]; rfl)]; exact hr1
          · have e1 : PL.ncOf (hB d) (k + 1) = PL.ncOf (hB d) k := by rw [HNS.out, HCN.out]; rfl
            have e2 : PL.numC (hB d) d.nm (k + 1) = PL.numC (hB d) d.nm k := by
              show (if hB d k = true then _ else PL.numC (hB d) d.nm k) = _
              rw [HHV.out]; rfl
            rw [e1, e2]; exact hz1
        clear hz1 hr1 hnd
        go_wp2
        go_roundg (n - (k + 1))
        case measure => omega
        case rel => exact ⟨k + 1, rfl, by omega, by go_num, by rw [HNS.out]; rfl, by rw [HNS.out]; rfl, HC'.out⟩
      | true =>
        have hchn : c < hn := by rw [← HCN.out, ← HHN.out]; exact PL.ncOf_lt (hB d) hkn HHV.out
        obtain ⟨cs, hcs, hN⟩ := hz1.nodes
        obtain ⟨cp, hcp, hPA, hcpl⟩ := hz1.paths
        have hM := hz1.num
        rw [HCN.out] at hN hPA hM
        have x1 := hr1.cell (i := k) (v := .int .i64 0) (nats_at (x := 0) (by rw [tab_at _ _ _ hkn, pre_self]))
        have x2 := hr1.frozen k
        have hr2 := hr1.set k (.int .i64 (c : Int))
        rw [nats_set, tab_pre' n k _ 0 c (by unfold PL.rnF; rw [HHV.out, if_pos rfl, HCN.out])] at hr2
        have hnd2 := hnd.setOther (c := rb) (o := k) (by omega) (.int .i64 (c : Int))
        have hcs2 := hcs.setOther (c := rb) (o := k) (Ne.symm e1) (.int .i64 (c : Int))
        have hcp2 := hcp.setOther (c := rb) (o := k) (Ne.symm e2) (.int .i64 (c : Int))
        have hM2 := hM.kept (grown_set w1 rb k (.int .i64 (c : Int))) (by simpa using Ne.symm e3)
        have hk02 := hk01.setCell (b := rb) (o := k) (.inl hrb) (.int .i64 (c : Int))
        have hs2 : (w1.setCell ⟨rb, k, none⟩ (.int .i64 (c : Int))).heap.size = kb + 1 := by simpa using hs1
        clear hz1 hr1 hnd hcs hcp hM hk01
        go_upto_region 10 with fail
        generalize w1.setCell ⟨rb, k, none⟩ (.int .i64 (c : Int)) = w2 at *
        clear x1 x2
        have n0 := hnd2.cell (i := 0) rfl
        have hszn : nm.size ≤ maxLen := by rw [← HNM.out]; exact HSZ.out k
        obtain ⟨l, hl⟩ := key9 hszn
        obtain ⟨w3, hrun, hg3, hM3⟩ := hM2.store (t := 72) kS_inj keyed9 Try.underlying72 (by omega) hl (c : Int) (wf_small (by omega) (by omega))
        have hnone : PL.numC (hB d) d.nm k nm = none := by
          have := PL.numC_at (hB d) HA.out k k hkn hk
          rw [HNM.out, if_neg (by omega)] at this
          exact this
        rw [hnone] at hM3
        simp only [Option.isSome_none, Bool.false_eq_true, if_false] at hM3
        have hr3 := hr2.kept hg3 (by simpa using e3)
        have hnd3 := hnd2.kept hg3 (by simp; omega)
        have hcs3 := hcs2.kept hg3 (by simpa using e5)
        have hcp3 := hcp2.kept hg3 (by simpa using e6)
        have hk03 : Kp B [] w0 w3 := hk02.grown hg3 (by omega) (fun q hq => .inl (by cases hq; exact hmb))
        have hs3 : kb + 1 ≤ w3.heap.size := by rw [← hs2]; exact hg3.size
        unfold kS at hrun
        clear hr2 hnd2 hcs2 hcp2 hM2 hk02 hl hg3 hnone hs2
        go_upto_region 11 with fail
        clear hrun n0
        have n0 := hnd3.cell (i := 0) rfl
        have n1 := hnd3.cell (i := 1) rfl
        have n2 := hnd3.cell (i := 2) rfl
        have n3 := hnd3.cell (i := 3) rfl
        have hab := row_new w3 [Value.string nm, Value.map lk, Value.slice ao jl jl, Value.int IntKind.i64 (ls : Int)] 79
        have hcsl := hN.len
        obtain ⟨w4, hrun4, hcs4, hg4⟩ := push_node (w3.alloc (Obj.cells #[Value.string nm, Value.map lk, Value.slice ao jl jl, Value.int IntKind.i64 (ls : Int)] 79)) 71 nb c hn w3.heap.size cs (.string nm) (.map lk) (.slice ao jl jl) (.int .i64 (ls : Int)) (hcs3.alloc _) hcsl hchn hab (by simp [Value.oneCell'])
        have hg34 : w3.grownBy w4 (some nb) := (grown_any (World.grownBy_alloc w3 _ none) _).trans hg4
        have hr4 := hr3.kept hg34 (by simpa using e1)
        have hcp4 := hcp3.kept hg34 (by simpa using Ne.symm e4)
        have hM4 := hM3.kept hg34 (by simpa using Ne.symm e5)
        have hk04 : Kp B [] w0 w4 := hk03.grown hg34 (by omega) (fun q hq => .inl (by cases hq; exact hnb))
        have hN4 := (((hN.set0 hchn nm).set1 hchn (.map lk)).set2 hchn (.slice ao jl jl)).set3 hchn ls
        have hs4 : kb + 1 ≤ w4.heap.size := Nat.le_trans hs3 hg34.size
        have HR4 := hid_mk hr4
        have HCS4 := hid_mk hcs4
        have HN4 := hid_mk hN4
        have HM4 := hid_mk hM4
        clear hr3 hcs3 hcp3 hM3 hk03 hnd3 hab hg4 hg34 hr4 hcs4 hN4 hM4 hN hcsl
        go_upto_region 12 with (first | (at_builtin; refine wpList_append_run rfl _ _ 71 rfl _ _ _ rfl rfl hrun4 ?_))
        clear hrun4 n0 n1 n2 n3
        have hP4 := HP.out.kp (by rw [HB.out]; exact hk04)
        have hst := hP4.st
        have s3 := hst.cell (i := 3) rfl
        obtain ⟨cq, hcq, hPQ, hql, hq1, hq2⟩ := hP4.paths
        have y0 := hcq.cell (hPQ.via k hkn)
        have y1 := hcq.cell (hPQ.prev k hkn)
        have y2 := hcq.cell (hPQ.hops k hkn)
        obtain ⟨q, hq⟩ : ∃ q, d.P k = q := ⟨_, rfl⟩
        rw [hq] at y0 y1 y2
        have HQ : Hid (d.P k = q) := hq
        have hab := row_new w4 [Value.int IntKind.i64 (q.via : Int), Value.int IntKind.i64 (q.prev : Int), Value.int IntKind.i64 (q.hops : Int)] 70
        have a0 := World.cell?_alloc_lt
        obtain ⟨w5, hrun5, hcp5, hg5⟩ := push_path (w4.alloc (Obj.cells #[Value.int IntKind.i64 (q.via : Int), Value.int IntKind.i64 (q.prev : Int), Value.int IntKind.i64 (q.hops : Int)] 70)) 73 pb c hn w4.heap.size cp (.int .i64 (q.via : Int)) (.int .i64 (q.prev : Int)) (.int .i64 (q.hops : Int)) (hcp4.alloc _) hcpl hchn hab (by simp [Value.oneCell'])
        clear a0
        have hg45 : w4.grownBy w5 (some pb) := (grown_any (World.grownBy_alloc w4 _ none) _).trans hg5
        have HC' : Hid (Cp1 w5 w0 n hn rb nb pb mb B d b (k + 1)) := by
          have ek : PL.hidx (hB d) n c = k := by rw [← HCN.out]; exact PL.hidx_at (hB d) hkn HHV.out
          have hP5 := hPA.set hchn q
          refine ⟨HR4.out.kept hg45 (by simpa using e2), ?_, hk04.grown hg45 (by omega) (fun q hq => .inl (by cases hq; exact hpb))⟩
          have en : PL.ncOf (hB d) (k + 1) = c + 1 := by rw [HNS.out]; rfl
          have em : PL.numC (hB d) d.nm (k + 1) = fun u => if u = nm then some (c : Int) else PL.numC (hB d) d.nm k u := by
            show (if hB d k = true then (fun s => if s = d.nm k then some (PL.ncOf (hB d) k : Int) else PL.numC (hB d) d.nm k s) else PL.numC (hB d) d.nm k) = _
            rw [HHV.out, if_pos rfl, HNM.out, HCN.out]
          rw [en, em]
          refine ⟨⟨_, HCS4.out.kept hg45 (by simpa using e4), ?_⟩, ⟨_, hcp5, ?_, by simpa using hcpl⟩, HM4.out.kept hg45 (by simpa using Ne.symm e6)⟩
          · have h4 := HN4.out
            rw [pre_upd' c (fun j => d.nm (PL.hidx (hB d) n j)) ⟨#[]⟩ nm (by rw [ek, HNM.out]), pre_upd' c (fun j => Value.map (b.lk (PL.hidx (hB d) n j))) (.map none) (.map lk) (by rw [ek, HLK.out]), pre_upd' c (fun j => jval (b.jb (PL.hidx (hB d) n j)) (d.J (PL.hidx (hB d) n j)).length) (.slice none 0 0) (.slice ao jl jl) (by rw [ek, HJL.out]; exact HJA.out.symm), pre_upd' c (fun j => d.ls (PL.hidx (hB d) n j)) 0 ls (by rw [ek, HLS.out])] at h4
            exact h4
          · rw [pre_upd' c (fun j => d.P (PL.hidx (hB d) n j)) pt0 q (by rw [ek, HQ.out])] at hP5
            exact hP5
        clear hP4 hst hcq hPQ hql hq hab hcp5 hg5 hg45 hcp4 hPA hcpl HR4 HCS4 HN4 HM4 hk04
        go_wp2_with (first | (at_builtin; refine wpList_append_run rfl _ _ 73 rfl _ _ _ rfl rfl hrun5 ?_))
        go_roundg (n - (k + 1))
        case measure => omega
        case rel => exact ⟨k + 1, rfl, by omega, by go_num, by rw [HNS.out]; rfl, by rw [HNS.out]; rfl, HC'.out⟩
    · have e : n = k := by omega
      subst e
      have HC' : Hid (Cp1 wa w0 n hn rb nb pb mb B d b n) := hC
      rw [HHN.out]
      clear hC
      go_wp2
      apply HX.out
      exact ⟨HC'.out, rfl, rfl⟩
end Go.Proofs.Qxb6600010a
