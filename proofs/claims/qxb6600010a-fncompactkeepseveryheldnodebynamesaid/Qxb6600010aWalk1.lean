/-
  THE LOOP OF walk OVER ITS QUEUE.
-/
import Derived.Test.Qxb6600010aNamed
import Derived.Test.Qxb6600010aBfs
import Derived.Test.Qxb6600010aBuildP
namespace Go.Proofs.Qxb6600010a
open Go.RowKit
set_option linter.unusedVariables false
set_option linter.unusedSimpArgs false
attribute [local go_sem ↓] Go.wp_at_zero Go.wp_at_succ

/-- The walk's two rows: the queue, and the paths at B. -/
structure WkAt (wr w : World) (B n gc : Nat) (v : Value) (s : List Nat × (Nat → PT)) : Prop where
  q : wr.ownsRow (B + 1) 3 1 v s.1.length (nats s.1)
  r : ∃ cp, Row wr B 70 cp ∧ PAt cp n s.2 ∧ cp.length = gc * 3
  k : Kp B [] w wr
theorem WkAt.kp {wr w wx : World} {B n gc : Nat} {v : Value} {s : List Nat × (Nat → PT)} (h : WkAt wr w B n gc v s) (hB : B ≤ wr.heap.size) (hk : Kp wr.heap.size [] wr wx) : WkAt wx w B n gc v s := by
  obtain ⟨cp, h1, h2, h3⟩ := h.r
  exact ⟨owns_kp h.q hk (fun k hk' => ⟨(owns_block h.q k hk').2.1, by simp⟩), ⟨cp, h1.kp hk h1.lt (by simp), h2, h3⟩, h.k.trans (hk.mono hB (by simp))⟩
theorem jval_form {b : Option Nat} {w : World} {L : List Nat} (h0 : b = none → L = []) (h1 : ∀ g, b = some g → Row w g 3 (nats L)) : ∃ ao : Option Addr, jval b L.length = .slice ao L.length L.length ∧ (0 < L.length → ∃ g, ao = some ⟨g, 0, none⟩ ∧ Row w g 3 (nats L)) := by
  cases b with
  | none => exact ⟨none, by rw [h0 rfl]; rfl, fun h => by rw [h0 rfl] at h; simp at h⟩
  | some g => exact ⟨some ⟨g, 0, none⟩, rfl, fun _ => ⟨g, rfl, h1 g rfl⟩⟩
/-- The path that the walk gives. -/
def PL.newP (P : Nat → PT) (f t : Nat) : PT := if f = 0 then ⟨t, 0, 1⟩ else ⟨(P f).via, f, (P f).hops + 1⟩
theorem PL.vis_no {f t : Nat} {s : List Nat × (Nat → PT)} (h : t = 0 ∨ 0 < (s.2 t).hops) : PL.vis f s t = s := by unfold PL.vis; rw [if_pos h]
theorem PL.vis_yes {f t : Nat} {s : List Nat × (Nat → PT)} (h : ¬ (t = 0 ∨ 0 < (s.2 t).hops)) : PL.vis f s t = (s.1 ++ [t], upd s.2 t (PL.newP s.2 f t)) := by unfold PL.vis PL.newP; rw [if_neg h]
theorem WkAt.set {wr w : World} {B n gc t : Nat} {v : Value} {s : List Nat × (Nat → PT)} (h : WkAt wr w B n gc v s) (ht : t < n) (q : PT) :
    WkAt (((wr.setCell ⟨B, t * 3, none⟩ (.int .i64 (q.via : Int))).setCell ⟨B, t * 3 + 1, none⟩ (.int .i64 (q.prev : Int))).setCell ⟨B, t * 3 + 2, none⟩ (.int .i64 (q.hops : Int))) w B n gc v (s.1, upd s.2 t q) := by
  obtain ⟨cp, h1, h2, h3⟩ := h.r
  refine ⟨?_, ⟨_, ((h1.set _ _).set _ _).set _ _, h2.set ht q, by simpa using h3⟩, ((h.k.setCell (.inl (Nat.le_refl _)) _).setCell (.inl (Nat.le_refl _)) _).setCell (.inl (Nat.le_refl _)) _⟩
  exact ownsRow_setCell_below (ownsRow_setCell_below (ownsRow_setCell_below h.q (a := ⟨B, t * 3, none⟩) (by show B < B + 1; omega) _) (a := ⟨B, t * 3 + 1, none⟩) (by show B < B + 1; omega) _) (a := ⟨B, t * 3 + 2, none⟩) (by show B < B + 1; omega) _
theorem WkAt.push {wr w w' : World} {B n gc g cap t : Nat} {v : Value} {s : List Nat × (Nat → PT)} (h : WkAt wr w B n gc v s) (hB : B + 1 ≤ wr.heap.size) (hg : wr.grownBy w' v.ownBlock)
    (ho : w'.ownsRow (B + 1) 3 1 (.slice (some ⟨g, 0, none⟩) (s.1.length + 1) cap) (s.1.length + 1) (nats (s.1 ++ [t]))) : WkAt w' w B n gc (.slice (some ⟨g, 0, none⟩) (s.1.length + 1) cap) (s.1 ++ [t], s.2) := by
  obtain ⟨cp, h1, h2, h3⟩ := h.r
  have hne : some B ≠ v.ownBlock := fun e => by have := (owns_block h.q B e.symm).1; omega
  exact ⟨by rw [List.length_append]; exact ho, ⟨cp, h1.kept hg hne, h2, h3⟩, h.k.grown hg (by omega) (fun k hk => .inl (by have := (owns_block h.q k hk).1; omega))⟩
theorem row_arr (w : World) (A : Array Value) (e : TypeId) : Row (w.alloc (.cells A e)) w.heap.size e A.toList := by
  have := row_new w A.toList e
  simpa using this
theorem push_int (W : World) (ty base : Nat) (v : Value) (L : List Nat) (x : Nat) (hown : W.ownsRow base 3 1 v L.length (nats L)) (hl : L.length ≤ 1000000) (hb : base ≤ W.heap.size) :
    ∃ (g cap : Nat) (w' : World), (Builtin.append_ #[23, 23] ty #[v, .slice (some ⟨W.heap.size, 0, none⟩) 1 1]).run Try.prog (W.alloc (Obj.cells #[Value.int .i64 (x : Int)] 3)) = .ok (.slice (some ⟨g, 0, none⟩) (L.length + 1) cap) w' ∧
      w'.ownsRow base 3 1 (.slice (some ⟨g, 0, none⟩) (L.length + 1) cap) (L.length + 1) (nats (L ++ [x])) ∧ W.grownBy w' v.ownBlock := by
  obtain ⟨i3, hi3, hz30, hz31, hz32⟩ := info_parts info3
  obtain ⟨g, cap, w', hr, h2, h3, h4, h5⟩ := run_append_lies (P := Try.prog) (W.alloc (Obj.cells #[Value.int .i64 (x : Int)] 3)) 23 ty base 3 i3 (.int .i64 0) 1 8 Try.underlying23 hi3 hz30 hz31 hz32 rfl (by decide) v L.length (nats L) (hown.alloc _) ⟨W.heap.size, 0, none⟩ 1 1 [.int .i64 (x : Int)] rfl
    (one_at (by have := row_new W [.int .i64 (x : Int)] 3; exact this.cell (i := 0) rfl)) (by simp [Value.oneCell']) (by omega) (by unfold maxLen; omega) (by omega) (by simp; omega) _ rfl
  exact ⟨g, cap, w', hr, by rw [nats_snoc]; exact h2, (grown_any (World.grownBy_alloc W _ none) _).trans h3⟩
set_option maxHeartbeats 20000000 in
set_option maxRecDepth 1000000 in
theorem walk_loop1 {c1 c6 c7 c8 c9 c10 c11 c12 c13 c14 c15 c16 c17 c18 c19 c20 c21 c22 c23 c24 c25 c26 c27 c28 c29 c30 c31 c32 c33 c34 c35 c36 c37 c38 c39 c40 c41 c42 c43 c44 c45 c46 c47 c48 c49 c50 c51 c52 c53 c54 c55 c56 c57 c58 c59 c60 c61 c62 c63 c64 c65 c66 c67 c68 c69 c70 c71 c72 c73 c74 c75 c76 c77 c78 c79 c80 c81 c82 c83 c84 c85 c86 c87 c88 c89 c90 c91 c92 c93 c94 c95 c96 c97 c98 c99 c100 c101 c102 c103 c104 c105 c106 c107 c108 c109 c110 c111 c112 c113 c114 c115 c116 c117 c118 c119 c120 c121 c122 c123 c124 c125 c126 c127 c128 c129 c130 c131 c132 c133 c134 c135 c136 c137 c138 c139 c140 c141 c142 c143 c144 c145 c146 c147 c148 c149 c150 c151 c152 c153 c154 c155 c156 c157 c158 c159 : Value} {K : Act → World → Prop} {R : Ending → World → Prop} (w w3 : World) (p n B gc Q0 qc : Nat) (d : PD) (b : PB) (rk : Nat → Nat) (hn : n ≤ 65536) (hpl : p < B) (hg1 : n ≤ gc) (hg2 : gc ≤ maxLen)
    (HB : Hid (w.heap.size = B)) (HP : Hid (PsAt w p n d b)) (HG : Hid (PL.Gr n d.J rk)) (hjl : Hid (∀ k, k < n → (d.J k).length ≤ 65536))
    (hw : WkAt w3 w B n gc (.slice (some ⟨Q0, 0, none⟩) 1 qc) (PL.bst d.J 0))
    (HX : Hid (∀ (u4 u5 u6 u7 u8 u9 u10 u11 u12 u13 u14 u15 u16 u17 u18 u19 u20 u21 u22 u23 u24 u25 u26 u27 u28 u29 u30 u31 u32 u33 u34 u35 u36 u37 u38 u39 u40 u41 u42 u43 u44 u45 u46 u47 u48 u49 u50 u51 u52 u53 u54 u55 u56 u57 u58 u59 u60 u61 u62 u63 u64 u65 u66 u67 u68 u69 u70 u71 u72 u73 u74 u75 u76 u77 u78 u79 u80 u81 u82 u83 u84 u85 u86 u87 u88 u89 u90 u91 u92 u93 u94 u95 u96 u97 u98 u99 u100 u101 u102 u103 u104 u105 u106 u107 u108 u109 u110 u111 u112 u113 u114 u115 u116 u117 u118 u119 u120 u121 u122 u123 u124 u125 u126 u127 u128 u129 u130 u131 u132 u133 u134 u135 u136 u137 u138 u139 u140 u141 u142 u143 u144 u145 u146 u147 u148 u149 u150 u151 u152 u153 u154 u155 u156 u157 u158 u159 : Value) (w' : World), WkAt w' w B n gc u4 (PL.bst d.J n) → K ⟨List.toArray ((Value.pointer (some ⟨p, 0, none⟩)) :: c1 :: (Value.slice none 0 0) :: (Value.slice (some ⟨B, 0, none⟩) n gc) :: u4 :: u5 :: u6 :: u7 :: u8 :: u9 :: u10 :: u11 :: u12 :: u13 :: u14 :: u15 :: u16 :: u17 :: u18 :: u19 :: u20 :: u21 :: u22 :: u23 :: u24 :: u25 :: u26 :: u27 :: u28 :: u29 :: u30 :: u31 :: u32 :: u33 :: u34 :: u35 :: u36 :: u37 :: u38 :: u39 :: u40 :: u41 :: u42 :: u43 :: u44 :: u45 :: u46 :: u47 :: u48 :: u49 :: u50 :: u51 :: u52 :: u53 :: u54 :: u55 :: u56 :: u57 :: u58 :: u59 :: u60 :: u61 :: u62 :: u63 :: u64 :: u65 :: u66 :: u67 :: u68 :: u69 :: u70 :: u71 :: u72 :: u73 :: u74 :: u75 :: u76 :: u77 :: u78 :: u79 :: u80 :: u81 :: u82 :: u83 :: u84 :: u85 :: u86 :: u87 :: u88 :: u89 :: u90 :: u91 :: u92 :: u93 :: u94 :: u95 :: u96 :: u97 :: u98 :: u99 :: u100 :: u101 :: u102 :: u103 :: u104 :: u105 :: u106 :: u107 :: u108 :: u109 :: u110 :: u111 :: u112 :: u113 :: u114 :: u115 :: u116 :: u117 :: u118 :: u119 :: u120 :: u121 :: u122 :: u123 :: u124 :: u125 :: u126 :: u127 :: u128 :: u129 :: u130 :: u131 :: u132 :: u133 :: u134 :: u135 :: u136 :: u137 :: u138 :: u139 :: u140 :: u141 :: u142 :: u143 :: u144 :: u145 :: u146 :: u147 :: u148 :: u149 :: u150 :: u151 :: u152 :: u153 :: u154 :: u155 :: u156 :: u157 :: u158 :: u159 :: []), []⟩ w')) :
    Code.wp Try.prog (Code.loop (loopNo 0 Try.f45)) (Exit.inBlock 0 (Exit.then K (bodyPost Try.prog Try.f45 R))) ⟨List.toArray ((Value.pointer (some ⟨p, 0, none⟩)) :: c1 :: (Value.slice none 0 0) :: (Value.slice (some ⟨B, 0, none⟩) n gc) :: (Value.slice (some ⟨Q0, 0, none⟩) 1 qc) :: (Value.int IntKind.i64 0) :: c6 :: c7 :: c8 :: c9 :: c10 :: c11 :: c12 :: c13 :: c14 :: c15 :: c16 :: c17 :: c18 :: c19 :: c20 :: c21 :: c22 :: c23 :: c24 :: c25 :: c26 :: c27 :: c28 :: c29 :: c30 :: c31 :: c32 :: c33 :: c34 :: c35 :: c36 :: c37 :: c38 :: c39 :: c40 :: c41 :: c42 :: c43 :: c44 :: c45 :: c46 :: c47 :: c48 :: c49 :: c50 :: c51 :: c52 :: c53 :: c54 :: c55 :: c56 :: c57 :: c58 :: c59 :: c60 :: c61 :: c62 :: c63 :: c64 :: c65 :: c66 :: c67 :: c68 :: c69 :: c70 :: c71 :: c72 :: c73 :: c74 :: c75 :: c76 :: c77 :: c78 :: c79 :: c80 :: c81 :: c82 :: c83 :: c84 :: c85 :: c86 :: c87 :: c88 :: c89 :: c90 :: c91 :: c92 :: c93 :: c94 :: c95 :: c96 :: c97 :: c98 :: c99 :: c100 :: c101 :: c102 :: c103 :: c104 :: c105 :: c106 :: c107 :: c108 :: c109 :: c110 :: c111 :: c112 :: c113 :: c114 :: c115 :: c116 :: c117 :: c118 :: c119 :: c120 :: c121 :: c122 :: c123 :: c124 :: c125 :: c126 :: c127 :: c128 :: c129 :: c130 :: c131 :: c132 :: c133 :: c134 :: c135 :: c136 :: c137 :: c138 :: c139 :: c140 :: c141 :: c142 :: c143 :: c144 :: c145 :: c146 :: c147 :: c148 :: c149 :: c150 :: c151 :: c152 :: c153 :: c154 :: c155 :: c156 :: c157 :: c158 :: c159 :: []), []⟩ w3 := by
  conv => arg 2; arg 1; whnf
  have hn0 := HG.out.n0
  obtain ⟨i3, hi3, hz30, hz31, hz32⟩ := info_parts info3
  go_loopg [4, 5] n (fun g v s wr => ∃ (i : Nat), g = n - i ∧ i ≤ (PL.bst d.J i).1.length ∧ s = .int .i64 i ∧ WkAt wr w B n gc v (PL.bst d.J i))
  case atStart => exact ⟨0, rfl, by simp, rfl, hw⟩
  case round =>
    clear hw
    rename World => wa
    obtain ⟨i, rfl, hi, rfl, hw⟩ := hrel
    have hBI := PL.bi_bst HG.out i hi
    have hlen := PL.nodup_len hBI.nd hBI.lt
    have HBI : Hid (PL.BI n d.J rk i 0 (PL.bst d.J i)) := hBI
    have hsza : B + 1 ≤ wa.heap.size := by obtain ⟨cp, h1, _⟩ := hw.r; exact h1.lt
    by_cases hlt : i < (PL.bst d.J i).1.length
    · obtain ⟨f, hf⟩ : ∃ f, (PL.bst d.J i).1[i]? = some f := ⟨_, List.getElem?_eq_getElem hlt⟩
      have hfn : f < n := hBI.lt f (List.mem_of_getElem? hf)
      have HF : Hid ((PL.bst d.J i).1[i]? = some f) := hf
      obtain ⟨g', cap', rest', rfl, _, hrow', _, _, _⟩ := owns_to_row hw.q (by omega)
      have qc1 := hrow'.cell (at_left (nats_at hf))
      obtain ⟨ql, hql⟩ : ∃ ql, (PL.bst d.J i).1.length = ql := ⟨_, rfl⟩
      rw [hql] at hlt hlen hi
      have hPa := HP.out.kp (by rw [HB.out]; exact hw.k)
      have hst := hPa.st
      unfold slc at hst
      have s0 := hst.cell (i := 0) rfl
      obtain ⟨csn, hcsn, hN⟩ := hPa.nodes
      have jc := hcsn.cell (hN.jv f hfn)
      obtain ⟨ja, hja, hjrow⟩ := jval_form (hPa.jn0 f hfn) (hPa.jn1 f · hfn)
      rw [hja] at jc
      have hjl2 := hjl.out f hfn
      obtain ⟨jl, hjle⟩ : ∃ jl, (d.J f).length = jl := ⟨_, rfl⟩
      rw [hjle] at jc hjl2 hjrow
      have HJL : Hid ((d.J f).length = jl) := hjle
      have HJR : Hid (0 < jl → ∃ g, ja = some ⟨g, 0, none⟩ ∧ g < B ∧ Row w g 3 (nats (d.J f))) := by
        intro h0
        obtain ⟨g, rfl, h1⟩ := hjrow h0
        cases hb : b.jb f with
        | none =>
          rw [hb] at hja
          simp [jval] at hja
        | some gb =>
          have h2 := HP.out.jn1 f gb hfn hb
          rw [hb] at hja
          simp [jval, slc] at hja
          obtain ⟨rfl, _⟩ := hja
          exact ⟨_, rfl, by rw [← HB.out]; exact h2.lt, h2⟩
      rw [hql]
      clear hrow' hBI hPa hst hcsn hN hja hjrow hjle hf
      go_wp2_with fail
      go_loopg [4, 56] jl (fun g v s wi => ∃ (t : Nat), g = jl - t ∧ t ≤ jl ∧ s = .int .i64 t ∧ WkAt wi w B n gc v (PL.bit d.J i f t))
      case atStart => exact ⟨0, rfl, by omega, rfl, by rw [PL.bit_zero]; rw [hql] at hw; exact hw⟩
      case round =>
        clear hw qc1 s0 jc
        rename World => wi
        obtain ⟨t, rfl, ht, rfl, hw⟩ := hrel
        by_cases htt : t < jl
        · have hbi := PL.bi_bit HG.out HBI.out HF.out t (by rw [HJL.out]; exact ht)
          obtain ⟨gj, rfl, hgjB, hgj⟩ := HJR.out (by omega)
          have hgjr := hgj.kp hw.k hgjB (by simp)
          obtain ⟨x, hx⟩ : ∃ x, (d.J f)[t]? = some x := ⟨_, List.getElem?_eq_getElem (by rw [HJL.out]; exact htt)⟩
          have xc := hgjr.cell (nats_at hx)
          have hxn : x < n := (HG.out.rng f x (List.mem_of_getElem? hx)).1
          have hsucc := PL.bit_succ d.J i f t x hx
          obtain ⟨st, hst⟩ : ∃ st, PL.bit d.J i f t = st := ⟨_, rfl⟩
          rw [hst] at hw hbi hsucc
          have HSC : Hid (PL.bit d.J i f (t + 1) = PL.vis f st x) := hsucc
          have hszi : B + 1 ≤ wi.heap.size := by obtain ⟨cp, h1, _⟩ := hw.r; exact h1.lt
          obtain ⟨cp, hcp, hPA, hcl⟩ := hw.r
          have xh := hcp.cell (hPA.hops x hxn)
          have hhle : (st.2 x).hops ≤ n := by
            by_cases hm : x ∈ st.1
            · obtain ⟨q, hq⟩ := List.getElem?_of_mem hm
              have h1 := hbi.1.far q x hq
              have h2 := (List.getElem?_eq_some_iff.1 hq).1
              have h3 := PL.nodup_len hbi.1.nd hbi.1.lt
              unfold PL.dd at h1
              by_cases e : x = 0
              · rw [e, hbi.1.z]; simp [pt0]
              · rw [if_neg e] at h1; omega
            · rw [hbi.1.out x hm]; simp [pt0]
          clear hgj hgjr hx hsucc hst
          by_cases hc : x = 0 ∨ 0 < (st.2 x).hops
          · have HV : Hid (PL.vis f st x = st) := PL.vis_no hc
            have HW : Hid (WkAt wi w B n gc u4 st) := hw
            obtain ⟨hp, hhp⟩ : ∃ hp, (st.2 x).hops = hp := ⟨_, rfl⟩
            rw [hhp] at xh hhle hc
            clear hw hcp hPA hcl hbi hhp
            have hcase : (((x : Int) == 0) = true) ∨ (((x : Int) == 0) = false ∧ decide ((0 : Int) < (hp : Int)) = true ∧ decide (0 < hp) = true ∧ 0 < hp) := by
              by_cases e : x = 0
              · left; rw [beq_iff_eq]; omega
              · right; exact ⟨by rw [beq_eq_false_iff_ne]; omega, by simp; omega, by simp; omega, by omega⟩
            clear hc
            rcases hcase with g1 | ⟨g1, g2, g3, g4⟩
            · go_wp2
              go_roundg (jl - (t + 1))
              case measure => omega
              case rel => exact ⟨t + 1, rfl, by omega, by go_num, by rw [HSC.out, HV.out]; exact HW.out⟩
            · go_wp2
              go_roundg (jl - (t + 1))
              case measure => omega
              case rel => exact ⟨t + 1, rfl, by omega, by go_num, by rw [HSC.out, HV.out]; exact HW.out⟩
          · have HV : Hid (PL.vis f st x = (st.1 ++ [x], upd st.2 x (PL.newP st.2 f x))) := PL.vis_yes hc
            have hx0 : x ≠ 0 := fun e => hc (.inl e)
            have hh0 : (st.2 x).hops = 0 := by
              rcases Nat.eq_zero_or_pos (st.2 x).hops with e | e
              · exact e
              · exact absurd (.inr e) hc
            have g1 : ((x : Int) == 0) = false := by rw [beq_eq_false_iff_ne]; omega
            rw [hh0] at xh
            have HW : Hid (WkAt wi w B n gc u4 st) := hw
            have HBT : Hid (PL.BI n d.J rk i t st ∧ st.1[i]? = some f) := hbi
            obtain ⟨pb, hpb⟩ : ∃ pb, wi.heap.size = pb := ⟨_, rfl⟩
            have HPB : Hid (wi.heap.size = pb) := hpb
            clear hc hh0 hhle hbi hpb
            go_upto_if 74 with fail
            have hWx := hw.kp (by omega) ((Kp.refl _ _ _).alloc (Nat.le_refl _) (Obj.cells #[Value.int IntKind.i64 (x : Int), Value.int IntKind.i64 (f : Int), Value.int IntKind.i64 1] 70))
            have hpr := row_new wi [Value.int IntKind.i64 (x : Int), Value.int IntKind.i64 (f : Int), Value.int IntKind.i64 1] 70
            have hKx : Kp pb [] wi (wi.alloc (Obj.cells #[Value.int IntKind.i64 (x : Int), Value.int IntKind.i64 (f : Int), Value.int IntKind.i64 1] 70)) := by rw [← HPB.out]; exact (Kp.refl _ _ _).alloc (Nat.le_refl _) _
            rw [HPB.out] at hpr ⊢
            generalize wi.alloc (Obj.cells #[Value.int IntKind.i64 (x : Int), Value.int IntKind.i64 (f : Int), Value.int IntKind.i64 1] 70) = wx at *
            have hpbB : B < pb := by rw [← HPB.out]; omega
            clear hw hcp hPA hcl xc xh
            go_cut [] (fun wy => WkAt wy w B n gc u4 st ∧ Row wy pb 70 [.int .i64 ((PL.newP st.2 f x).via : Int), .int .i64 ((PL.newP st.2 f x).prev : Int), .int .i64 ((PL.newP st.2 f x).hops : Int)])
            case first =>
              by_cases hf0 : f = 0
              · have HE : Hid (PL.newP st.2 f x = ⟨x, 0, 1⟩) := by show PL.newP st.2 f x = _; unfold PL.newP; rw [if_pos hf0]
                subst hf0
                go_wp2
                go_meet
                case rel => exact ⟨hWx, by rw [HE.out]; exact hpr⟩
              · have HE : Hid (PL.newP st.2 f x = ⟨(st.2 f).via, f, (st.2 f).hops + 1⟩) := by show PL.newP st.2 f x = _; unfold PL.newP; rw [if_neg hf0]
                have hfb : ((f : Int) != 0) = true := by rw [bne_iff_ne]; omega
                obtain ⟨cp, hcp, hPA, hcl⟩ := hWx.r
                have f1 := hcp.cell (hPA.via f hfn)
                have f2 := hcp.cell (hPA.hops f hfn)
                have p0 := hpr.cell (i := 0) rfl
                have p1 := hpr.cell (i := 1) rfl
                have p2 := hpr.cell (i := 2) rfl
                have q0 := hpr.frozen 0
                have q2 := hpr.frozen 2
                have hhf : (st.2 f).hops ≤ n := by
                  have hm := List.mem_of_getElem? HBT.out.2
                  have h1 := HBT.out.1.far i f HBT.out.2
                  have h2 := (List.getElem?_eq_some_iff.1 HBT.out.2).1
                  have h3 := PL.nodup_len HBT.out.1.nd HBT.out.1.lt
                  unfold PL.dd at h1
                  rw [if_neg hf0] at h1; omega
                obtain ⟨fv, hfv⟩ : ∃ fv, (st.2 f).via = fv := ⟨_, rfl⟩
                obtain ⟨fh, hfh⟩ : ∃ fh, (st.2 f).hops = fh := ⟨_, rfl⟩
                rw [hfv] at f1
                rw [hfh] at f2 hhf
                have HE2 : Hid (PL.newP st.2 f x = ⟨fv, f, fh + 1⟩) := by show PL.newP st.2 f x = _; rw [HE.out, hfv, hfh]
                have HWX : Hid (WkAt wx w B n gc u4 st) := hWx
                have HPR : Hid (Row wx pb 70 [Value.int IntKind.i64 (x : Int), Value.int IntKind.i64 (f : Int), Value.int IntKind.i64 1]) := hpr
                have hne : B ≠ pb := by omega
                have hne2 : pb ≠ B := by omega
                clear hcp hPA hcl hWx hpr hfv hfh HE hf0
                go_wp2_with fail
                go_region
                all_goals
                  have hR2 : Row ((wx.setCell ⟨pb, 0, none⟩ (.int .i64 (fv : Int))).setCell ⟨pb, 2, none⟩ (.int .i64 ((fh : Int) + 1))).drew pb 70 [.int .i64 (fv : Int), .int .i64 (f : Int), .int .i64 ((fh : Int) + 1)] := ((HPR.out.set 0 (.int .i64 (fv : Int))).set 2 (.int .i64 ((fh : Int) + 1))).drew
                  have hW2 := HW.out.kp (by omega) (by rw [HPB.out]; exact ((hKx.setCell (b := pb) (o := 0) (.inl (Nat.le_refl _)) (.int .i64 (fv : Int))).setCell (b := pb) (o := 2) (.inl (Nat.le_refl _)) (.int .i64 ((fh : Int) + 1))).drew)
                  go_wp2
                  go_meet
                  case rel => exact ⟨hW2, by rw [HE2.out]; exact hR2⟩
            case rest =>
              obtain ⟨hWy, hpy⟩ := hcut
              clear hWx hpr HW hKx
              obtain ⟨q, hq⟩ : ∃ q, PL.newP st.2 f x = q := ⟨_, rfl⟩
              rw [hq] at hpy
              have HV2 : Hid (PL.vis f st x = (st.1 ++ [x], upd st.2 x q)) := by show PL.vis f st x = _; rw [HV.out, hq]
              have p0 := hpy.cell (i := 0) rfl
              have p1 := hpy.cell (i := 1) rfl
              have p2 := hpy.cell (i := 2) rfl
              obtain ⟨cp, hcp, hPA, hcl⟩ := hWy.r
              have f0 := hcp.cell (hPA.via x hxn)
              have f1 := hcp.cell (hPA.prev x hxn)
              have f2 := hcp.cell (hPA.hops x hxn)
              have z0 := hcp.frozen (x * 3)
              have z1 := hcp.frozen (x * 3 + 1)
              have z2 := hcp.frozen (x * 3 + 2)
              have hWz := hWy.set hxn q
              have hszy : B + 1 ≤ wc.heap.size := hcp.lt
              clear hcp hPA hcl hWy hpy hq HV
              go_upto_region 16 with fail
              have hszz : B + 1 ≤ (((wc.setCell ⟨B, x * 3, none⟩ (.int .i64 (q.via : Int))).setCell ⟨B, x * 3 + 1, none⟩ (.int .i64 (q.prev : Int))).setCell ⟨B, x * 3 + 2, none⟩ (.int .i64 (q.hops : Int))).heap.size := by simpa using hszy
              generalize ((wc.setCell ⟨B, x * 3, none⟩ (.int .i64 (q.via : Int))).setCell ⟨B, x * 3 + 1, none⟩ (.int .i64 (q.prev : Int))).setCell ⟨B, x * 3 + 2, none⟩ (.int .i64 (q.hops : Int)) = wz at *
              have hql2 : st.1.length ≤ n := PL.nodup_len HBT.out.1.nd HBT.out.1.lt
              have hgx : wz.grownBy (wz.alloc (Obj.cells #[Value.int .i64 (x : Int)] 3)) u4.ownBlock := grown_any (World.grownBy_alloc wz _ none) _
              have hone : ∀ (j : Nat) (u : Value), [Value.int .i64 (x : Int)][j]? = some u → (wz.alloc (Obj.cells #[Value.int .i64 (x : Int)] 3)).cell? ((⟨wz.heap.size, 0, none⟩ : Addr).add j) = some u := one_at (by have := row_new wz [.int .i64 (x : Int)] 3; exact this.cell (i := 0) rfl)
              have HQ : Hid (World.ownsRow wz (B + 1) 3 1 u4 st.1.length (nats st.1)) := hWz.q
              have HWZ : Hid (WkAt wz w B n gc u4 (st.1, upd st.2 x q)) := hWz
              have HONE : Hid (∀ (j : Nat) (u : Value), [Value.int .i64 (x : Int)][j]? = some u → (wz.alloc (Obj.cells #[Value.int .i64 (x : Int)] 3)).cell? ((⟨wz.heap.size, 0, none⟩ : Addr).add j) = some u) := hone
              clear hWz hone p0 p1 p2 f0 f1 f2 z0 z1 z2
              go_wp2_with (first | (at_builtin; refine wpList_append_lies _ rfl _ _ 23 rfl (B + 1) 3 i3 (.int .i64 0) 1 8 Try.underlying23 hi3 hz30 hz31 hz32 rfl (by decide) u4 st.1.length (nats st.1) rfl (HQ.out.alloc _) ⟨wz.heap.size, 0, none⟩ 1 1 [.int .i64 (x : Int)] rfl rfl HONE.out (by simp [Value.oneCell']) (by omega) (by unfold maxLen; omega) (by omega) (by simp; omega) _ rfl ?_; intro qg qcap w' hown' hgr' hat' hlt'; clear hat' hlt'))
              have HWF : Hid (WkAt w' w B n gc (.slice (some ⟨qg, 0, none⟩) (st.1.length + 1) qcap) (st.1 ++ [x], upd st.2 x q)) := HWZ.out.push hszz (hgx.trans hgr') (by rw [nats_snoc]; exact hown')
              go_roundg (jl - (t + 1))
              case measure => omega
              case rel => exact ⟨t + 1, rfl, by omega, by go_num, by rw [HSC.out, HV2.out]; exact HWF.out⟩
        · have e : jl = t := by omega
          subst e
          have HW : Hid (WkAt wi w B n gc u4 (PL.bst d.J (i + 1))) := by
            rw [← HJL.out, PL.bit_all d.J i f HF.out] at hw; exact hw
          have hb2 := (PL.bi_bit HG.out HBI.out HF.out (d.J f).length (Nat.le_refl _)).2
          rw [PL.bit_all d.J i f HF.out] at hb2
          have hi2 : i + 1 ≤ (PL.bst d.J (i + 1)).1.length := (List.getElem?_eq_some_iff.1 hb2).1
          clear hw hb2 htt
          go_wp2
          go_roundg (n - (i + 1))
          case measure => omega
          case rel => exact ⟨i + 1, rfl, hi2, by go_num, HW.out⟩
    · have e : PL.bst d.J n = PL.bst d.J i := PL.bfs_of n d.J i (by omega) (by omega)
      have HW : Hid (WkAt wa w B n gc u4 (PL.bst d.J n)) := by show WkAt wa w B n gc u4 (PL.bst d.J n); rw [e]; exact hw
      obtain ⟨ao, cap', hv, _⟩ := owns_form hw.q
      subst hv
      obtain ⟨ql, hql⟩ : ∃ ql, (PL.bst d.J i).1.length = ql := ⟨_, rfl⟩
      rw [hql] at hlt hi hlen HW ⊢
      clear hql e hw hBI HBI
      go_wp2
      apply HX.out
      exact HW.out
end Go.Proofs.Qxb6600010a
