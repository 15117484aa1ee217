/-
  THE LOOPS OF FnRelinkedWalkAgreesWithWalk.
-/
import Derived.Test.Qxb6600010aRlP2
import Derived.Deep.RegionHeld3
import Derived.BigQuiet
namespace Go.Proofs.Qxb6600010a
open Go.RowKit
set_option linter.unusedVariables false
set_option linter.unusedSimpArgs false
attribute [local go_sem ↓] Go.wp_at_zero Go.wp_at_succ
theorem fields48 : Try.prog.underlying 48 = some (.struct (Try.prog.fieldsOf 48)) := by kernel_rfl
theorem held48 : Try.prog.stoodInHeld 48 = false := by kernel_rfl
set_option maxHeartbeats 1000000 in
theorem equal48 (nm v1 : ByteArray) (h1 : Nat) (p1 v2 : ByteArray) (h2 : Nat) (p2 : ByteArray) (w : World) : (Op.equalIn 10000 48 (.agg #[.string nm, .string v1, .int .i64 (h1 : Int), .string p1, .string v2, .int .i64 (h2 : Int), .string p2]) (.agg #[.string nm, .string v1, .int .i64 (h1 : Int), .string p1, .string v2, .int .i64 (h2 : Int), .string p2])).run Try.prog w = .ok true w := by
  have u3 := Try.underlying3
  have a3 := Try.isAgg3
  have z3 := Try.sizeOf3
  have u9 := Try.underlying9
  have a9 := Try.isAgg9
  have z9 := Try.sizeOf9
  have a45 := Try.isAgg45
  have z45 := Try.sizeOf45
  rw [show (10000 : Nat) = 9998 + 1 + 1 from rfl, run_equalIn_struct w 9999 48 _ _ fields48 held48]
  simp only [Program.fieldsOf, Try.underlying48]
  go_simp
/-- Two lists of changes, each in strict order of names, of one stock: one list. -/
theorem chg_one {C C' D : List CH} (h1 : C.Perm D) (h2 : C'.Perm D) (s1 : C.Pairwise (fun x y => PL.nlt x.nm y.nm = true)) (s2 : C'.Pairwise (fun x y => PL.nlt x.nm y.nm = true)) : C = C' :=
  List.Perm.eq_of_pairwise (fun a b _ _ h h' => by rw [PL.nlt_asymm h] at h'; cases h') s1 s2 (h1.trans h2.symm)
/-- A Paths beyond B0 is as it was where only blocks below B0 turn. -/
theorem PsAt.kpLow {w w' : World} {p n B0 : Nat} {d : PD} {b : PB} {S : List Nat} (h : PsAt w p n d b) (hf : PFr B0 p n b) (hk : Kp w.heap.size S w w') (hS : ∀ x, x ∈ S → x < B0) : PsAt w' p n d b := by
  have hno : ∀ x, B0 ≤ x → x ∉ S := fun x hx hm => by have := hS x hm; omega
  obtain ⟨cs, h1, h2⟩ := h.nodes
  obtain ⟨cp, h3, h4⟩ := h.paths
  exact ⟨h.st.kp hk h.st.lt (hno _ hf.pp), ⟨cs, h1.kp hk h1.lt (hno _ hf.nb), h2⟩, ⟨cp, h3.kp hk h3.lt (hno _ hf.pb), h4⟩, h.num.kp hk h.num.lt (hno _ hf.mb), h.lk0,
    fun k g h5 h6 => (h.lk1 k g h5 h6).kp hk (h.lk1 k g h5 h6).lt (hno _ (hf.lk k g h5 h6).1), h.jn0, fun k g h5 h6 => (h.jn1 k g h5 h6).kp hk (h.jn1 k g h5 h6).lt (hno _ (hf.jb k g h5 h6).1)⟩
/-- A Paths is as it was where only another Paths' own struct turns. -/
theorem PsAt.kpTop {w w' : World} {p q n : Nat} {d : PD} {b : PB} {xs : List Value} (h : PsAt w p n d b) (hq : Row w q 75 xs) (hne : p ≠ q) (hk : Kp w.heap.size [q] w w') : PsAt w' p n d b := by
  obtain ⟨cs, h1, h2⟩ := h.nodes
  obtain ⟨cp, h3, h4⟩ := h.paths
  refine ⟨h.st.kp hk h.st.lt (by simpa using hne), ⟨cs, h1.kp hk h1.lt (by simp; exact ne_row h1 hq (by decide)), h2⟩, ⟨cp, h3.kp hk h3.lt (by simp; exact ne_row h3 hq (by decide)), h4⟩, h.num.kp hk h.num.lt (by simp; exact fun e => ne_map hq h.num e.symm), h.lk0, fun k g h5 h6 => ?_, h.jn0, fun k g h5 h6 => ?_⟩
  · exact (h.lk1 k g h5 h6).kp hk (h.lk1 k g h5 h6).lt (by simp; exact fun e => ne_map hq (h.lk1 k g h5 h6) e.symm)
  · exact (h.jn1 k g h5 h6).kp hk (h.jn1 k g h5 h6).lt (by simp; exact ne_row (h.jn1 k g h5 h6) hq (by decide))
set_option maxHeartbeats 20000000 in
set_option maxRecDepth 1000000 in
theorem law9_loop1 {c0 c1 c2 c3 c4 c5 c6 c7 c8 c9 c10 c11 c12 c13 c14 c15 c19 c20 c21 c22 c23 c24 c25 c26 c27 c28 c29 c30 c31 c32 c33 c34 c35 c36 c37 c38 c39 c40 c41 c42 c43 c44 c45 c46 c47 c48 c49 c50 c51 c52 c53 c54 c55 c56 c57 c58 c59 c60 c61 c62 c63 c64 c65 c66 c67 c68 c69 c70 c71 c72 c73 c74 c75 c76 c77 c78 c79 c80 c81 c82 c83 c84 c85 c86 c87 c88 c89 c90 c91 c92 c93 c94 c95 c96 c97 c98 c99 c100 c101 c102 c103 c104 c105 c106 c107 c108 c109 c110 c111 c112 c113 c114 c115 c116 c117 c118 c119 c120 c121 c122 c123 c124 c125 c126 c127 c128 c129 c130 c131 c132 c133 c134 c135 c136 c137 c138 c139 c140 c141 c142 c143 c144 c145 c146 c147 c148 c149 c150 c151 c152 c153 c154 c155 c156 c157 c158 c159 c160 c161 c162 c163 c164 c165 c166 c167 c168 c169 c170 c171 c172 c173 c174 c175 c176 : Value} {K : Act → World → Prop} {R : Ending → World → Prop} (w0 : World) (B base base2 cl cc cc2 : Nat) (ca cb : Option Addr) (C : List CH) (hcl : cl ≤ 65536) (HB : Hid (w0.heap.size = B)) (HCL : Hid (C.length = cl)) (HC : Hid (w0.ownsRow base 48 7 (.slice ca cl cc) cl (chs C))) (HC2 : Hid (w0.ownsRow base2 48 7 (.slice cb cl cc2) cl (chs C)))
    (HX : Hid (∀ (u10 u18 u19 u20 u21 u22 u23 u24 u25 u26 u27 u28 u29 u30 u31 u32 u33 u34 u35 u36 u37 u38 u39 u40 u41 u42 u43 u44 u45 u46 u47 u48 u49 u50 u51 u52 u53 u54 u55 u56 u57 u58 u59 u60 u61 u62 u63 u64 u65 u66 u67 u68 u69 u70 u71 u72 u73 u74 u75 u76 u77 u78 u79 u80 u81 u82 u83 u84 u85 u86 u87 u88 u89 u90 u91 u92 u93 u94 u95 u96 u97 u98 u99 u100 u101 u102 u103 u104 u105 u106 u107 u108 u109 u110 u111 u112 u113 u114 u115 u116 u117 u118 u119 u120 u121 u122 u123 u124 u125 u126 u127 u128 u129 u130 u131 u132 u133 u134 u135 u136 u137 u138 u139 u140 u141 u142 u143 u144 u145 u146 u147 u148 u149 u150 u151 u152 u153 u154 u155 u156 u157 u158 u159 u160 u161 u162 u163 u164 u165 u166 u167 u168 u169 u170 u171 u172 u173 u174 u175 u176 : Value) (w' : World), Kp B [] w0 w' → K ⟨List.toArray (c0 :: c1 :: c2 :: c3 :: c4 :: c5 :: c6 :: c7 :: c8 :: c9 :: u10 :: c11 :: c12 :: c13 :: c14 :: c15 :: (Value.slice ca cl cc) :: (Value.slice cb cl cc2) :: u18 :: u19 :: u20 :: u21 :: u22 :: u23 :: u24 :: u25 :: u26 :: u27 :: u28 :: u29 :: u30 :: u31 :: u32 :: u33 :: u34 :: u35 :: u36 :: u37 :: u38 :: u39 :: u40 :: u41 :: u42 :: u43 :: u44 :: u45 :: u46 :: u47 :: u48 :: u49 :: u50 :: u51 :: u52 :: u53 :: u54 :: u55 :: u56 :: u57 :: u58 :: u59 :: u60 :: u61 :: u62 :: u63 :: u64 :: u65 :: u66 :: u67 :: u68 :: u69 :: u70 :: u71 :: u72 :: u73 :: u74 :: u75 :: u76 :: u77 :: u78 :: u79 :: u80 :: u81 :: u82 :: u83 :: u84 :: u85 :: u86 :: u87 :: u88 :: u89 :: u90 :: u91 :: u92 :: u93 :: u94 :: u95 :: u96 :: u97 :: u98 :: u99 :: u100 :: u101 :: u102 :: u103 :: u104 :: u105 :: u106 :: u107 :: u108 :: u109 :: u110 :: u111 :: u112 :: u113 :: u114 :: u115 :: u116 :: u117 :: u118 :: u119 :: u120 :: u121 :: u122 :: u123 :: u124 :: u125 :: u126 :: u127 :: u128 :: u129 :: u130 :: u131 :: u132 :: u133 :: u134 :: u135 :: u136 :: u137 :: u138 :: u139 :: u140 :: u141 :: u142 :: u143 :: u144 :: u145 :: u146 :: u147 :: u148 :: u149 :: u150 :: u151 :: u152 :: u153 :: u154 :: u155 :: u156 :: u157 :: u158 :: u159 :: u160 :: u161 :: u162 :: u163 :: u164 :: u165 :: u166 :: u167 :: u168 :: u169 :: u170 :: u171 :: u172 :: u173 :: u174 :: u175 :: u176 :: []), []⟩ w')) :
    Code.wp Try.prog (Code.loop (loopNo 0 Try.f9)) (Exit.inBlock 0 (Exit.then K (bodyPost Try.prog Try.f9 R))) ⟨List.toArray (c0 :: c1 :: c2 :: c3 :: c4 :: c5 :: c6 :: c7 :: c8 :: c9 :: c10 :: c11 :: c12 :: c13 :: c14 :: c15 :: (Value.slice ca cl cc) :: (Value.slice cb cl cc2) :: (Value.int IntKind.i64 (0 : Int)) :: c19 :: c20 :: c21 :: c22 :: c23 :: c24 :: c25 :: c26 :: c27 :: c28 :: c29 :: c30 :: c31 :: c32 :: c33 :: c34 :: c35 :: c36 :: c37 :: c38 :: c39 :: c40 :: c41 :: c42 :: c43 :: c44 :: c45 :: c46 :: c47 :: c48 :: c49 :: c50 :: c51 :: c52 :: c53 :: c54 :: c55 :: c56 :: c57 :: c58 :: c59 :: c60 :: c61 :: c62 :: c63 :: c64 :: c65 :: c66 :: c67 :: c68 :: c69 :: c70 :: c71 :: c72 :: c73 :: c74 :: c75 :: c76 :: c77 :: c78 :: c79 :: c80 :: c81 :: c82 :: c83 :: c84 :: c85 :: c86 :: c87 :: c88 :: c89 :: c90 :: c91 :: c92 :: c93 :: c94 :: c95 :: c96 :: c97 :: c98 :: c99 :: c100 :: c101 :: c102 :: c103 :: c104 :: c105 :: c106 :: c107 :: c108 :: c109 :: c110 :: c111 :: c112 :: c113 :: c114 :: c115 :: c116 :: c117 :: c118 :: c119 :: c120 :: c121 :: c122 :: c123 :: c124 :: c125 :: c126 :: c127 :: c128 :: c129 :: c130 :: c131 :: c132 :: c133 :: c134 :: c135 :: c136 :: c137 :: c138 :: c139 :: c140 :: c141 :: c142 :: c143 :: c144 :: c145 :: c146 :: c147 :: c148 :: c149 :: c150 :: c151 :: c152 :: c153 :: c154 :: c155 :: c156 :: c157 :: c158 :: c159 :: c160 :: c161 :: c162 :: c163 :: c164 :: c165 :: c166 :: c167 :: c168 :: c169 :: c170 :: c171 :: c172 :: c173 :: c174 :: c175 :: c176 :: []), []⟩ w0 := by
  conv => arg 2; arg 1; whnf
  have HROW : Hid (0 < cl → ∃ g, ca = some ⟨g, 0, none⟩ ∧ g < B ∧ ∃ rest, Row w0 g 48 (chs C ++ rest)) := by
    intro h
    obtain ⟨g, cap, rest, hv, _, hr, _⟩ := owns_to_rowC HC.out h
    simp only [Value.slice.injEq] at hv
    exact ⟨g, hv.1, by rw [← HB.out]; exact hr.lt, rest, hr⟩
  have HROW2 : Hid (0 < cl → ∃ g, cb = some ⟨g, 0, none⟩ ∧ g < B ∧ ∃ rest, Row w0 g 48 (chs C ++ rest)) := by
    intro h
    obtain ⟨g, cap, rest, hv, _, hr, _⟩ := owns_to_rowC HC2.out h
    simp only [Value.slice.injEq] at hv
    exact ⟨g, hv.1, by rw [← HB.out]; exact hr.lt, rest, hr⟩
  go_loopg [18] cl (fun g s wr => ∃ (i : Nat), g = cl - i ∧ i ≤ cl ∧ s = .int .i64 i ∧ Kp B [] w0 wr)
  case atStart => exact ⟨0, rfl, by omega, rfl, Kp.refl _ _ _⟩
  case round =>
    rename World => wa
    obtain ⟨i, rfl, hi, rfl, hK⟩ := hrel
    by_cases hil : i < cl
    · obtain ⟨g, rfl, hgB, rest, hrow⟩ := HROW.out (by omega)
      obtain ⟨g2, rfl, hgB2, rest2, hrow2⟩ := HROW2.out (by omega)
      have hrowa := hrow.kp hK hgB (by simp)
      have hrowb := hrow2.kp hK hgB2 (by simp)
      obtain ⟨x, hx⟩ : ∃ x, C[i]? = some x := ⟨_, List.getElem?_eq_getElem (by rw [HCL.out]; exact hil)⟩
      have e0 := hrowa.cell (at_left (chs_cell hx (j := 0) (by omega) rfl))
      have e1 := hrowa.cell (at_left (chs_cell hx (j := 1) (by omega) rfl))
      have e2 := hrowa.cell (at_left (chs_cell hx (j := 2) (by omega) rfl))
      have e3 := hrowa.cell (at_left (chs_cell hx (j := 3) (by omega) rfl))
      have e4 := hrowa.cell (at_left (chs_cell hx (j := 4) (by omega) rfl))
      have e5 := hrowa.cell (at_left (chs_cell hx (j := 5) (by omega) rfl))
      have e6 := hrowa.cell (at_left (chs_cell hx (j := 6) (by omega) rfl))
      have f0 := hrowb.cell (at_left (chs_cell hx (j := 0) (by omega) rfl))
      have f1 := hrowb.cell (at_left (chs_cell hx (j := 1) (by omega) rfl))
      have f2 := hrowb.cell (at_left (chs_cell hx (j := 2) (by omega) rfl))
      have f3 := hrowb.cell (at_left (chs_cell hx (j := 3) (by omega) rfl))
      have f4 := hrowb.cell (at_left (chs_cell hx (j := 4) (by omega) rfl))
      have f5 := hrowb.cell (at_left (chs_cell hx (j := 5) (by omega) rfl))
      have f6 := hrowb.cell (at_left (chs_cell hx (j := 6) (by omega) rfl))
      obtain ⟨nm, ⟨wv, wh, wp⟩, ⟨iv, ih, ip⟩⟩ := x
      simp only [Nat.add_zero] at e0 f0
      simp only [] at e0 e1 e2 e3 e4 e5 e6 f0 f1 f2 f3 f4 f5 f6
      have q1e := equal48 nm wv wh wp iv ih ip
      have HK := hid_mk hK
      clear hrow hrowa hrow2 hrowb hx hK
      go_upto_region 24 with fail
      go_quiet (fail)
      go_wp2
      go_roundg (cl - (i + 1))
      case measure => omega
      case rel => exact ⟨i + 1, rfl, by omega, by go_num, HK.out.drewN _⟩
    · have e : cl = i := by omega
      subst e
      go_wp2
      apply HX.out
      exact hK
set_option maxHeartbeats 20000000 in
set_option maxRecDepth 1000000 in
theorem law9_loop2 {c1 c2 c3 c4 c5 c6 c7 c8 c9 c10 c12 c13 c16 c17 c18 c20 c21 c22 c23 c24 c25 c26 c27 c28 c29 c30 c31 c32 c33 c34 c35 c36 c37 c38 c39 c40 c41 c42 c43 c44 c45 c46 c47 c48 c49 c50 c51 c52 c53 c54 c55 c56 c57 c58 c59 c60 c61 c62 c63 c64 c65 c66 c67 c68 c69 c70 c71 c72 c73 c74 c75 c76 c77 c78 c79 c80 c81 c82 c83 c84 c85 c86 c87 c88 c89 c90 c91 c92 c93 c94 c95 c96 c97 c98 c99 c100 c101 c102 c103 c104 c105 c106 c107 c108 c109 c110 c111 c112 c113 c114 c115 c116 c117 c118 c119 c120 c121 c122 c123 c124 c125 c126 c127 c128 c129 c130 c131 c132 c133 c134 c135 c136 c137 c138 c139 c140 c141 c142 c143 c144 c145 c146 c147 c148 c149 c150 c151 c152 c153 c154 c155 c156 c157 c158 c159 c160 c161 c162 c163 c164 c165 c166 c167 c168 c169 c170 c171 c172 c173 c174 c175 c176 : Value} {K : Act → World → Prop} {R : Ending → World → Prop} (w0 : World) (p p2 n n' B nb mp hb : Nat) (d d2 : PD) (b b2 : PB) (MS : List Value) (ss : List ByteArray) (P : Nat → PT) (hd : Nat → Bool) (hn0 : 0 < n) (hn : n ≤ 65536) (HPP : Hid (p ≠ p2)) (HB : Hid (w0.heap.size = B)) (HP : Hid (PsAt w0 p n' d b)) (HP2 : Hid (PsAt w0 p2 n d2 b2)) (HKP : Hid (Kept n n' (fun k => ss[k]?.getD ⟨#[]⟩) P hd d)) (HD2 : Hid (d2.nm = (fun k => ss[k]?.getD ⟨#[]⟩) ∧ d2.P = P)) (HV : Hid (∀ k, k < n → ((P k).hops = 0 ∨ ((P k).via < n ∧ (P k).prev < n)) ∧ (P k).hops ≤ 1000000)) (HSZ : Hid (∀ k : Nat, (ss[k]?.getD ⟨#[]⟩).size ≤ maxLen)) (HSL : Hid (ss.length = n)) (HN : Hid (Row w0 nb 9 (strs ss))) (HMS : Hid (Row w0 mp 32 MS)) (HM0 : Hid (MS[0]? = some (.int .i64 (n : Int)))) (HM6 : Hid (MS[6]? = some (.slice (some ⟨hb, 0, none⟩) n n))) (HHD : Hid (Row w0 hb 4 (bools (tab n hd))))
    (HX : Hid (∀ (u10 u19 u20 u21 u22 u23 u24 u25 u26 u27 u28 u29 u30 u31 u32 u33 u34 u35 u36 u37 u38 u39 u40 u41 u42 u43 u44 u45 u46 u47 u48 u49 u50 u51 u52 u53 u54 u55 u56 u57 u58 u59 u60 u61 u62 u63 u64 u65 u66 u67 u68 u69 u70 u71 u72 u73 u74 u75 u76 u77 u78 u79 u80 u81 u82 u83 u84 u85 u86 u87 u88 u89 u90 u91 u92 u93 u94 u95 u96 u97 u98 u99 u100 u101 u102 u103 u104 u105 u106 u107 u108 u109 u110 u111 u112 u113 u114 u115 u116 u117 u118 u119 u120 u121 u122 u123 u124 u125 u126 u127 u128 u129 u130 u131 u132 u133 u134 u135 u136 u137 u138 u139 u140 u141 u142 u143 u144 u145 u146 u147 u148 u149 u150 u151 u152 u153 u154 u155 u156 u157 u158 u159 u160 u161 u162 u163 u164 u165 u166 u167 u168 u169 u170 u171 u172 u173 u174 u175 u176 : Value) (w' : World), Kp B [] w0 w' → K ⟨List.toArray ((Value.slice (some ⟨nb, 0, none⟩) n n) :: c1 :: c2 :: c3 :: c4 :: c5 :: c6 :: c7 :: c8 :: c9 :: u10 :: (Value.pointer (some ⟨mp, 0, none⟩)) :: c12 :: c13 :: (Value.pointer (some ⟨p, 0, none⟩)) :: (Value.pointer (some ⟨p2, 0, none⟩)) :: c16 :: c17 :: c18 :: u19 :: u20 :: u21 :: u22 :: u23 :: u24 :: u25 :: u26 :: u27 :: u28 :: u29 :: u30 :: u31 :: u32 :: u33 :: u34 :: u35 :: u36 :: u37 :: u38 :: u39 :: u40 :: u41 :: u42 :: u43 :: u44 :: u45 :: u46 :: u47 :: u48 :: u49 :: u50 :: u51 :: u52 :: u53 :: u54 :: u55 :: u56 :: u57 :: u58 :: u59 :: u60 :: u61 :: u62 :: u63 :: u64 :: u65 :: u66 :: u67 :: u68 :: u69 :: u70 :: u71 :: u72 :: u73 :: u74 :: u75 :: u76 :: u77 :: u78 :: u79 :: u80 :: u81 :: u82 :: u83 :: u84 :: u85 :: u86 :: u87 :: u88 :: u89 :: u90 :: u91 :: u92 :: u93 :: u94 :: u95 :: u96 :: u97 :: u98 :: u99 :: u100 :: u101 :: u102 :: u103 :: u104 :: u105 :: u106 :: u107 :: u108 :: u109 :: u110 :: u111 :: u112 :: u113 :: u114 :: u115 :: u116 :: u117 :: u118 :: u119 :: u120 :: u121 :: u122 :: u123 :: u124 :: u125 :: u126 :: u127 :: u128 :: u129 :: u130 :: u131 :: u132 :: u133 :: u134 :: u135 :: u136 :: u137 :: u138 :: u139 :: u140 :: u141 :: u142 :: u143 :: u144 :: u145 :: u146 :: u147 :: u148 :: u149 :: u150 :: u151 :: u152 :: u153 :: u154 :: u155 :: u156 :: u157 :: u158 :: u159 :: u160 :: u161 :: u162 :: u163 :: u164 :: u165 :: u166 :: u167 :: u168 :: u169 :: u170 :: u171 :: u172 :: u173 :: u174 :: u175 :: u176 :: []), []⟩ w')) :
    Code.wp Try.prog (Code.loop (loopNo 1 Try.f9)) (Exit.inBlock 2 (Exit.then K (bodyPost Try.prog Try.f9 R))) ⟨List.toArray ((Value.slice (some ⟨nb, 0, none⟩) n n) :: c1 :: c2 :: c3 :: c4 :: c5 :: c6 :: c7 :: c8 :: c9 :: c10 :: (Value.pointer (some ⟨mp, 0, none⟩)) :: c12 :: c13 :: (Value.pointer (some ⟨p, 0, none⟩)) :: (Value.pointer (some ⟨p2, 0, none⟩)) :: c16 :: c17 :: c18 :: (Value.int IntKind.i64 (0 : Int)) :: c20 :: c21 :: c22 :: c23 :: c24 :: c25 :: c26 :: c27 :: c28 :: c29 :: c30 :: c31 :: c32 :: c33 :: c34 :: c35 :: c36 :: c37 :: c38 :: c39 :: c40 :: c41 :: c42 :: c43 :: c44 :: c45 :: c46 :: c47 :: c48 :: c49 :: c50 :: c51 :: c52 :: c53 :: c54 :: c55 :: c56 :: c57 :: c58 :: c59 :: c60 :: c61 :: c62 :: c63 :: c64 :: c65 :: c66 :: c67 :: c68 :: c69 :: c70 :: c71 :: c72 :: c73 :: c74 :: c75 :: c76 :: c77 :: c78 :: c79 :: c80 :: c81 :: c82 :: c83 :: c84 :: c85 :: c86 :: c87 :: c88 :: c89 :: c90 :: c91 :: c92 :: c93 :: c94 :: c95 :: c96 :: c97 :: c98 :: c99 :: c100 :: c101 :: c102 :: c103 :: c104 :: c105 :: c106 :: c107 :: c108 :: c109 :: c110 :: c111 :: c112 :: c113 :: c114 :: c115 :: c116 :: c117 :: c118 :: c119 :: c120 :: c121 :: c122 :: c123 :: c124 :: c125 :: c126 :: c127 :: c128 :: c129 :: c130 :: c131 :: c132 :: c133 :: c134 :: c135 :: c136 :: c137 :: c138 :: c139 :: c140 :: c141 :: c142 :: c143 :: c144 :: c145 :: c146 :: c147 :: c148 :: c149 :: c150 :: c151 :: c152 :: c153 :: c154 :: c155 :: c156 :: c157 :: c158 :: c159 :: c160 :: c161 :: c162 :: c163 :: c164 :: c165 :: c166 :: c167 :: c168 :: c169 :: c170 :: c171 :: c172 :: c173 :: c174 :: c175 :: c176 :: []), []⟩ w0 := by
  conv => arg 2; arg 1; whnf
  have hml : mp < B := by rw [← HB.out]; exact HMS.out.lt
  have hnl : nb < B := by rw [← HB.out]; exact HN.out.lt
  have hhl : hb < B := by rw [← HB.out]; exact HHD.out.lt
  go_loopg [19] n (fun g s wr => ∃ (k : Nat), g = n - k ∧ k ≤ n ∧ s = .int .i64 k ∧ Kp B [] w0 wr)
  case atStart => exact ⟨0, rfl, by omega, rfl, Kp.refl _ _ _⟩
  case round =>
    rename World => wa
    obtain ⟨k, rfl, hk, rfl, hK⟩ := hrel
    have hms := HMS.out.kp hK hml (by simp)
    have m0 := hms.cell HM0.out
    by_cases hkn : k < n
    · have hPa := HP.out.kp (by rw [HB.out]; exact hK)
      have m6 := hms.cell HM6.out
      obtain ⟨s, hs⟩ : ∃ s, ss[k]? = some s := ⟨_, List.getElem?_eq_getElem (by rw [HSL.out]; exact hkn)⟩
      have hsz := HSZ.out k
      have hs' : ss[k]?.getD ⟨#[]⟩ = s := by rw [hs]; rfl
      rw [hs'] at hsz
      have n1 := (HN.out.kp hK hnl (by simp)).cell (strs_at hs)
      have h1 := (HHD.out.kp hK hhl (by simp)).cell (i := k) (v := .bool (hd k)) (bools_at (tab_at n k hd hkn))
      have hc := number_any wa p n' s d b hPa hsz
      have HS := hid_mk hs'
      have hBw : B ≤ wa.heap.size := by rw [← HB.out]; exact hK.size
      clear hPa hs hs' hms
      by_cases hh : hd k = true
      · obtain ⟨j, hj, hnum, hnm, hnp, hv, hhp⟩ := HKP.out.yes k hkn hh
        have hn' := HKP.out.le
        rw [HS.out] at hnum hnm
        rw [hnum] at hc
        rw [hh] at h1
        simp only [Option.getD_some, Option.isSome_some] at hc
        have hnp' : nmd d.nm (d.P j) = nmd (fun k => ss[k]?.getD ⟨#[]⟩) (P k) := hnp
        obtain ⟨⟨xv, xh, xp⟩, hx⟩ : ∃ x, nmd (fun k => ss[k]?.getD ⟨#[]⟩) (P k) = x := ⟨_, rfl⟩
        have HMK : Hid (∀ W, Kp B [] w0 W → W.cell? ⟨nb, k, none⟩ = some (.string s) ∧ Kp B [] w0 W) := by
          intro W hW
          exact ⟨(HN.out.kp hW hnl (by simp)).cell (strs_at (by rw [List.getElem?_eq_getElem (by rw [HSL.out]; exact hkn)] ; exact congrArg some (by have := HS.out; rw [List.getElem?_eq_getElem (by rw [HSL.out]; exact hkn)] at this; exact this))), hW⟩
        have HC3 : Hid (∀ W, Kp B [] w0 W → Calls Try.prog 22 #[.pointer (some ⟨p2, 0, none⟩), .int .i64 (k : Int)] W fun e w' => e = .returned (.agg #[.string xv, .int .i64 (xh : Int), .string xp]) ∧ Kp W.heap.size [] W w') := by
          intro W hW
          have hv2 := HV.out k hkn
          have := zznamed_any W p2 n k d2 b2 (HP2.out.kp (by rw [HB.out]; exact hW)) hkn hn (by rw [HD2.out.2]; exact hv2.1) (by rw [HD2.out.2]; exact hv2.2)
          rw [HD2.out.1, HD2.out.2, hx] at this
          exact this
        have HC1 : Hid (∀ W, Kp B [] w0 W → Calls Try.prog 28 #[.pointer (some ⟨p, 0, none⟩), .int .i64 (j : Int)] W fun e w' => e = .returned (.string s) ∧ Kp W.heap.size [] W w') := by
          intro W hW
          have := name_any W p n' j d b (HP.out.kp (by rw [HB.out]; exact hW)) hj (by omega)
          rw [hnm] at this
          exact this.mono (fun e w' h => ⟨h.1, by rw [h.2]; exact Kp.refl _ _ _⟩)
        have HC2 : Hid (∀ W, Kp B [] w0 W → Calls Try.prog 22 #[.pointer (some ⟨p, 0, none⟩), .int .i64 (j : Int)] W fun e w' => e = .returned (.agg #[.string xv, .int .i64 (xh : Int), .string xp]) ∧ Kp W.heap.size [] W w') := by
          intro W hW
          have := zznamed_any W p n' j d b (HP.out.kp (by rw [HB.out]; exact hW)) hj (by omega) hv hhp
          rw [hnp', hx] at this
          exact this
        have heq := equal45 xv xh xp xv xh xp
        rw [npNe_self] at heq
        clear hnum hnm hnp hnp' hx hv hhp
        go_wp2_with fail
        refine hc.mono ?_
        rintro e w2 ⟨rfl, hw2⟩
        rw [hw2]
        clear hc hw2
        go_upto_region 31 with fail
        clear m0 m6 h1 n1
        obtain ⟨n1, _⟩ := HMK.out wa hK
        have hpp := HPP.out
        have hB0 : B ≤ w0.heap.size := by rw [HB.out]; exact Nat.le_refl _
        go_region_held3 (fun w' => w'.cell? ⟨nb, k, none⟩ = some (.string s) ∧ Kp B [] w0 w') (first | exact HMK.out _ hK.drew | (go_split_ands; refine HMK.out _ ?_; assumption) | (go_split_ands; exact HMK.out _ (Kp.step hB0 (by assumption) (by assumption)))) (first | (go_at_call 28; refine (HC1.out _ (by go_split_ands; assumption)).mono ?_; rintro e wc1 ⟨rfl, hkA⟩) | (go_at_call_of 22 (Value.pointer (some ⟨p, 0, none⟩)); refine (HC2.out _ (by go_split_ands; assumption)).mono ?_; rintro e wc2 ⟨rfl, hkB⟩) | (go_at_call_of 22 (Value.pointer (some ⟨p2, 0, none⟩)); refine (HC3.out _ (by go_split_ands; assumption)).mono ?_; rintro e wc3 ⟨rfl, hkC⟩))
        all_goals
          have HK2 : Hid (Kp B [] w0 wc3) := by
            show Kp B [] w0 wc3
            go_split_ands; assumption
          go_wp2
          go_roundg (n - (k + 1))
          case measure => omega
          case rel => exact ⟨k + 1, rfl, by omega, by go_num, HK2.out⟩
      · have hh' : hd k = false := by simpa using hh
        have hnum := HKP.out.no k hkn hh'
        rw [HS.out] at hnum
        rw [hnum] at hc
        rw [hh'] at h1
        simp only [Option.getD_none, Option.isSome_none] at hc
        clear hnum hh
        go_wp2_with fail
        refine hc.mono ?_
        rintro e w2 ⟨rfl, hw2⟩
        rw [hw2]
        clear hc hw2
        go_wp2
        go_roundg (n - (k + 1))
        case measure => omega
        case rel => exact ⟨k + 1, rfl, by omega, by go_num, hK⟩
    · have e : n = k := by omega
      subst e
      clear hms
      go_wp2
      apply HX.out
      exact hK
end Go.Proofs.Qxb6600010a
