/-
  THE LOOPS OF FnWalkReportsExactlyTheChangedPaths; rows of Paths by name.
-/
import Derived.Test.Qxb6600010aRead2
import Derived.Test.Qxb6600010aBuildP
import Derived.BigQuiet
namespace Go.Proofs.Qxb6600010a
open Go.RowKit
set_option linter.unusedVariables false
set_option linter.unusedSimpArgs false
attribute [local go_sem ↓] Go.wp_at_zero Go.wp_at_succ

/-! ### Rows of Paths by name -/
def npC (x : NP) : List Value := [.string x.via, .int .i64 (x.hops : Int), .string x.prev]
structure QAt (cs : List Value) (n : Nat) (F : Nat → NP) : Prop where
  len : cs.length = n * 3
  via : ∀ k, k < n → cs[k * 3]? = some (.string (F k).via)
  hops : ∀ k, k < n → cs[k * 3 + 1]? = some (.int .i64 ((F k).hops : Int))
  prev : ∀ k, k < n → cs[k * 3 + 2]? = some (.string (F k).prev)
theorem QAt.set {cs : List Value} {n k : Nat} {P : Nat → NP} (h : QAt cs n P) (hk : k < n) (p : NP) :
    QAt (((cs.set (k * 3) (.string p.via)).set (k * 3 + 1) (.int .i64 (p.hops : Int))).set (k * 3 + 2) (.string p.prev)) n (upd P k p) := by
  have hl := h.len
  refine ⟨by simpa using h.len, fun j hj => ?_, fun j hj => ?_, fun j hj => ?_⟩ <;> rw [set_at _ _ _ _ (by simp; omega), set_at _ _ _ _ (by simp; omega), set_at _ _ _ _ (by omega)]
  · unfold upd
    by_cases e : j = k
    · subst e; rw [if_neg (by omega), if_neg (by omega), if_pos rfl, if_pos rfl]
    · rw [if_neg (by omega), if_neg (by omega), if_neg (by omega), if_neg e]; exact h.via j hj
  · unfold upd
    by_cases e : j = k
    · subst e; rw [if_neg (by omega), if_pos rfl, if_pos rfl]
    · rw [if_neg (by omega), if_neg (by omega), if_neg (by omega), if_neg e]; exact h.hops j hj
  · unfold upd
    by_cases e : j = k
    · subst e; rw [if_pos rfl, if_pos rfl]
    · rw [if_neg (by omega), if_neg (by omega), if_neg (by omega), if_neg e]; exact h.prev j hj
theorem QAt.congr {cs : List Value} {n : Nat} {P P' : Nat → NP} (h : QAt cs n P) (he : ∀ k, k < n → P k = P' k) : QAt cs n P' :=
  ⟨h.len, fun k hk => by rw [← he k hk]; exact h.via k hk, fun k hk => by rw [← he k hk]; exact h.hops k hk, fun k hk => by rw [← he k hk]; exact h.prev k hk⟩
theorem qat_made (n : Nat) : QAt (madeCells #[.string ⟨#[]⟩, .int .i64 0, .string ⟨#[]⟩] (n * 3)).toList n (fun _ => np0) :=
  ⟨by simp [size_madeCells], fun k hk => made_at [.string ⟨#[]⟩, .int .i64 0, .string ⟨#[]⟩] n k 0 _ hk rfl,
    fun k hk => made_at [.string ⟨#[]⟩, .int .i64 0, .string ⟨#[]⟩] n k 1 _ hk rfl,
    fun k hk => made_at [.string ⟨#[]⟩, .int .i64 0, .string ⟨#[]⟩] n k 2 _ hk rfl⟩
/-- A row of n Paths at block b. -/
def QRow (w : World) (b n : Nat) (F : Nat → NP) : Prop := ∃ cs, Row w b 45 cs ∧ QAt cs n F
theorem QRow.kp {w w' : World} {B b n : Nat} {S : List Nat} {F : Nat → NP} (h : QRow w b n F) (hk : Kp B S w w') (hb : b < B) (hs : b ∉ S) : QRow w' b n F := by
  obtain ⟨cs, h1, h2⟩ := h
  exact ⟨cs, h1.kp hk hb hs, h2⟩
theorem QRow.lt {w : World} {b n : Nat} {F : Nat → NP} (h : QRow w b n F) : b < w.heap.size := by obtain ⟨cs, h1, _⟩ := h; exact h1.lt
theorem QRow.set {w : World} {b n k : Nat} {F : Nat → NP} (h : QRow w b n F) (hk : k < n) (p : NP) : QRow (((w.setCell ⟨b, k * 3, none⟩ (.string p.via)).setCell ⟨b, k * 3 + 1, none⟩ (.int .i64 (p.hops : Int))).setCell ⟨b, k * 3 + 2, none⟩ (.string p.prev)) b n (upd F k p) := by
  obtain ⟨cs, h1, h2⟩ := h
  exact ⟨_, ((h1.set _ _).set _ _).set _ _, h2.set hk p⟩
theorem QRow.setOther {w : World} {b c n o1 o2 o3 : Nat} {F : Nat → NP} (h : QRow w b n F) (hne : b ≠ c) (v1 v2 v3 : Value) : QRow (((w.setCell ⟨c, o1, none⟩ v1).setCell ⟨c, o2, none⟩ v2).setCell ⟨c, o3, none⟩ v3) b n F := by
  obtain ⟨cs, h1, h2⟩ := h
  exact ⟨cs, ((h1.setOther hne _).setOther hne _).setOther hne _, h2⟩
theorem QRow.congr {w : World} {b n : Nat} {P P' : Nat → NP} (h : QRow w b n P) (he : ∀ k, k < n → P k = P' k) : QRow w b n P' := by
  obtain ⟨cs, h1, h2⟩ := h
  exact ⟨cs, h1, h2.congr he⟩
theorem QRow.drewN {w : World} {b n : Nat} {F : Nat → NP} (h : QRow w b n F) (q : Nat) : QRow (w.drewN q) b n F := h
theorem qrow_made (w : World) (b n : Nat) (hb : w.heap.size = b) : QRow (w.alloc (.cells (madeCells #[.string ⟨#[]⟩, .int .i64 0, .string ⟨#[]⟩] (n * 3)) 45)) b n (fun _ => np0) := by
  subst hb
  exact ⟨_, row_madeW w [.string ⟨#[]⟩, .int .i64 0, .string ⟨#[]⟩] (n * 3) 45, qat_made n⟩
theorem QRow.cells {w : World} {b n : Nat} {F : Nat → NP} (h : QRow w b n F) (k : Nat) (hk : k < n) : (w.cell? ⟨b, k * 3, none⟩ = some (.string (F k).via) ∧ w.cell? ⟨b, k * 3 + 1, none⟩ = some (.int .i64 ((F k).hops : Int)) ∧ w.cell? ⟨b, k * 3 + 2, none⟩ = some (.string (F k).prev)) ∧ w.frozen? ⟨b, k * 3, none⟩ = false ∧ w.frozen? ⟨b, k * 3 + 1, none⟩ = false ∧ w.frozen? ⟨b, k * 3 + 2, none⟩ = false := by
  obtain ⟨cs, h1, h2⟩ := h
  exact ⟨⟨h1.cell (h2.via k hk), h1.cell (h2.hops k hk), h1.cell (h2.prev k hk)⟩, h1.frozen _, h1.frozen _, h1.frozen _⟩
theorem pre_step {w : World} {b n k : Nat} {F : Nat → NP} {x : NP} (h : QRow w b n (upd (pre k F np0) k x)) (hx : x = F k) : QRow w b n (pre (k + 1) F np0) := by
  rw [pre_upd' k F np0 x hx] at h; exact h

/-! ### Two Paths compared -/
def npNe (x y : NP) : Bool := !(x.via.toList == y.via.toList && x.hops == y.hops && x.prev.toList == y.prev.toList)
theorem npNe_no {x y : NP} (h : npNe x y = false) : x = y := by
  cases x; cases y
  simp [npNe] at h
  obtain ⟨⟨h1, h2⟩, h3⟩ := h
  rw [PL.toList_inj h1, h2, PL.toList_inj h3]
theorem npNe_self (x : NP) : npNe x x = false := by simp [npNe]
theorem npNe_yes {x y : NP} (h : x ≠ y) : npNe x y = true := by
  cases hb : npNe x y
  · exact absurd (npNe_no hb) h
  · rfl
theorem fields45 : Try.prog.underlying 45 = some (.struct (Try.prog.fieldsOf 45)) := by kernel_rfl
theorem held45 : Try.prog.stoodInHeld 45 = false := by kernel_rfl
set_option maxHeartbeats 1000000 in
theorem equal45 (v1 : ByteArray) (h1 : Nat) (p1 v2 : ByteArray) (h2 : Nat) (p2 : ByteArray) (w : World) : (Op.equalIn 10000 45 (.agg #[.string v1, .int .i64 (h1 : Int), .string p1]) (.agg #[.string v2, .int .i64 (h2 : Int), .string p2])).run Try.prog w = .ok (!npNe ⟨v1, h1, p1⟩ ⟨v2, h2, p2⟩) w := by
  have u3 := Try.underlying3
  have a3 := Try.isAgg3
  have z3 := Try.sizeOf3
  have u9 := Try.underlying9
  have a9 := Try.isAgg9
  have z9 := Try.sizeOf9
  rw [show (10000 : Nat) = 9999 + 1 from rfl, run_equalIn_struct w 9999 45 _ _ fields45 held45]
  simp only [Program.fieldsOf, Try.underlying45]
  go_simp
  unfold npNe
  have c2 : ((h1 : Int) = h2) = (h1 = h2) := propext (by omega)
  simp only [c2]
  by_cases g1 : v1.toList = v2.toList <;> by_cases g2 : h1 = h2 <;> by_cases g3 : p1.toList = p2.toList <;> simp [g1, g2, g3, beq_eq_false_iff_ne.2]
/-- Good paths are told apart by their names. -/
def GoodP (n : Nat) (q : PT) : Prop := (q.hops = 0 → q = pt0) ∧ (q.hops ≠ 0 → q.via < n ∧ q.prev < n)
theorem nmd_inj {names : Nat → ByteArray} {n : Nat} (ha : ∀ i j, i < n → j < n → names i = names j → i = j) {q r : PT} (hq : GoodP n q) (hr : GoodP n r) (h : nmd names q = nmd names r) : q = r := by
  unfold nmd at h
  by_cases e1 : q.hops = 0
  · by_cases e2 : r.hops = 0
    · rw [hq.1 e1, hr.1 e2]
    · rw [if_pos e1, if_neg e2] at h
      have : (0 : Nat) = r.hops := congrArg NP.hops h
      exact absurd this.symm e2
  · by_cases e2 : r.hops = 0
    · rw [if_neg e1, if_pos e2] at h
      have : q.hops = 0 := congrArg NP.hops h
      exact absurd this e1
    · rw [if_neg e1, if_neg e2] at h
      have h1 := congrArg NP.via h
      have h2 : q.hops = r.hops := congrArg NP.hops h
      have h3 := congrArg NP.prev h
      have h1' := ha _ _ (hq.2 e1).1 (hr.2 e2).1 h1
      have h3' := ha _ _ (hq.2 e1).2 (hr.2 e2).2 h3
      cases q; cases r
      simp at h1' h2 h3'
      simp [h1', h2, h3']
theorem npNe_ptNe {names : Nat → ByteArray} {n : Nat} (ha : ∀ i j, i < n → j < n → names i = names j → i = j) {q r : PT} (hq : GoodP n q) (hr : GoodP n r) : npNe (nmd names q) (nmd names r) = ptNe q r := by
  cases h : ptNe q r
  · rw [ptNe_no h]; exact npNe_self _
  · exact npNe_yes (fun e => ptNe_yes h (nmd_inj ha hq hr e))
theorem chs_cell {C : List CH} {i j : Nat} {x : CH} {v : Value} (h : C[i]? = some x) (hj : j < 7) (hv : (chC x)[j]? = some v) : (chs C)[i * 7 + j]? = some v := by
  rw [chs_at, show (i * 7 + j) / 7 = i by omega, show (i * 7 + j) % 7 = j by omega, h]
  exact hv
theorem row_set7 {w : World} (b : Nat) (hb : w.heap.size = b) (x : CH) : Row (w.alloc (.cells #[.string x.nm, .string x.was.via, .int .i64 (x.was.hops : Int), .string x.was.prev, .string x.is.via, .int .i64 (x.is.hops : Int), .string x.is.prev] 48)) b 48 (chC x) := by
  subst hb; exact row_new w (chC x) 48
set_option maxHeartbeats 20000000 in
set_option maxRecDepth 1000000 in
theorem law5_loop1 {c0 c1 c2 c3 c4 c5 c6 c7 c8 c9 c10 c15 c16 c17 c18 c19 c20 c21 c22 c23 c24 c25 c26 c27 c28 c29 c30 c31 c32 c33 c34 c35 c36 c37 c38 c39 c40 c41 c42 c43 c44 c45 c46 c47 c48 c49 c50 c51 c52 c53 c54 c55 c56 c57 c58 c59 c60 c61 c62 c63 c64 c65 c66 c67 c68 c69 c70 c71 c72 c73 c74 c75 c76 c77 c78 c79 c80 c81 c82 c83 c84 c85 c86 c87 c88 c89 c90 c91 c92 c93 c94 c95 c96 c97 c98 c99 c100 c101 c102 c103 c104 c105 c106 c107 c108 c109 c110 c111 c112 c113 c114 c115 c116 c117 c118 c119 c120 c121 c122 c123 c124 c125 c126 c127 c128 c129 c130 c131 c132 c133 c134 c135 c136 c137 c138 c139 c140 c141 c142 c143 c144 c145 c146 c147 c148 c149 c150 c151 c152 c153 c154 c155 c156 c157 c158 c159 c160 c161 c162 c163 c164 c165 c166 c167 c168 c169 c170 c171 c172 c173 c174 c175 c176 c177 c178 c179 c180 c181 c182 c183 c184 c185 c186 c187 c188 c189 c190 c191 c192 c193 : Value} {K : Act → World → Prop} {R : Ending → World → Prop} (w0 w4 : World) (p n B wb : Nat) (d : PD) (b : PB) (hn0 : 0 < n) (hn : n ≤ 65536) (HB : Hid (w0.heap.size = B)) (HP : Hid (PsAt w0 p n d b)) (HV : Hid (∀ k, k < n → ((d.P k).hops = 0 ∨ ((d.P k).via < n ∧ (d.P k).prev < n)) ∧ (d.P k).hops ≤ 1000000)) (hwb : B ≤ wb)
    (h1 : QRow w4 wb n (pre 1 (fun k => nmd d.nm (d.P k)) np0)) (hK : Kp B [] w0 w4)
    (HX : Hid (∀ (u14 u15 u16 u17 u18 u19 u20 u21 u22 u23 u24 u25 u26 u27 u28 u29 u30 u31 u32 u33 u34 u35 u36 u37 u38 u39 u40 u41 u42 u43 u44 u45 u46 u47 u48 u49 u50 u51 u52 u53 u54 u55 u56 u57 u58 u59 u60 u61 u62 u63 u64 u65 u66 u67 u68 u69 u70 u71 u72 u73 u74 u75 u76 u77 u78 u79 u80 u81 u82 u83 u84 u85 u86 u87 u88 u89 u90 u91 u92 u93 u94 u95 u96 u97 u98 u99 u100 u101 u102 u103 u104 u105 u106 u107 u108 u109 u110 u111 u112 u113 u114 u115 u116 u117 u118 u119 u120 u121 u122 u123 u124 u125 u126 u127 u128 u129 u130 u131 u132 u133 u134 u135 u136 u137 u138 u139 u140 u141 u142 u143 u144 u145 u146 u147 u148 u149 u150 u151 u152 u153 u154 u155 u156 u157 u158 u159 u160 u161 u162 u163 u164 u165 u166 u167 u168 u169 u170 u171 u172 u173 u174 u175 u176 u177 u178 u179 u180 u181 u182 u183 u184 u185 u186 u187 u188 u189 u190 u191 u192 u193 : Value) (w' : World), QRow w' wb n (fun k => nmd d.nm (d.P k)) ∧ Kp B [] w0 w' → K ⟨List.toArray (c0 :: c1 :: c2 :: c3 :: c4 :: c5 :: c6 :: c7 :: c8 :: c9 :: c10 :: (Value.pointer (some ⟨p, 0, none⟩)) :: (Value.int IntKind.i64 (n : Int)) :: (Value.slice (some ⟨wb, 0, none⟩) n n) :: u14 :: u15 :: u16 :: u17 :: u18 :: u19 :: u20 :: u21 :: u22 :: u23 :: u24 :: u25 :: u26 :: u27 :: u28 :: u29 :: u30 :: u31 :: u32 :: u33 :: u34 :: u35 :: u36 :: u37 :: u38 :: u39 :: u40 :: u41 :: u42 :: u43 :: u44 :: u45 :: u46 :: u47 :: u48 :: u49 :: u50 :: u51 :: u52 :: u53 :: u54 :: u55 :: u56 :: u57 :: u58 :: u59 :: u60 :: u61 :: u62 :: u63 :: u64 :: u65 :: u66 :: u67 :: u68 :: u69 :: u70 :: u71 :: u72 :: u73 :: u74 :: u75 :: u76 :: u77 :: u78 :: u79 :: u80 :: u81 :: u82 :: u83 :: u84 :: u85 :: u86 :: u87 :: u88 :: u89 :: u90 :: u91 :: u92 :: u93 :: u94 :: u95 :: u96 :: u97 :: u98 :: u99 :: u100 :: u101 :: u102 :: u103 :: u104 :: u105 :: u106 :: u107 :: u108 :: u109 :: u110 :: u111 :: u112 :: u113 :: u114 :: u115 :: u116 :: u117 :: u118 :: u119 :: u120 :: u121 :: u122 :: u123 :: u124 :: u125 :: u126 :: u127 :: u128 :: u129 :: u130 :: u131 :: u132 :: u133 :: u134 :: u135 :: u136 :: u137 :: u138 :: u139 :: u140 :: u141 :: u142 :: u143 :: u144 :: u145 :: u146 :: u147 :: u148 :: u149 :: u150 :: u151 :: u152 :: u153 :: u154 :: u155 :: u156 :: u157 :: u158 :: u159 :: u160 :: u161 :: u162 :: u163 :: u164 :: u165 :: u166 :: u167 :: u168 :: u169 :: u170 :: u171 :: u172 :: u173 :: u174 :: u175 :: u176 :: u177 :: u178 :: u179 :: u180 :: u181 :: u182 :: u183 :: u184 :: u185 :: u186 :: u187 :: u188 :: u189 :: u190 :: u191 :: u192 :: u193 :: []), []⟩ w')) :
    Code.wp Try.prog (Code.loop (loopNo 0 Try.f5)) (Exit.inBlock 0 (Exit.then K (bodyPost Try.prog Try.f5 R))) ⟨List.toArray (c0 :: c1 :: c2 :: c3 :: c4 :: c5 :: c6 :: c7 :: c8 :: c9 :: c10 :: (Value.pointer (some ⟨p, 0, none⟩)) :: (Value.int IntKind.i64 (n : Int)) :: (Value.slice (some ⟨wb, 0, none⟩) n n) :: (Value.int IntKind.i64 (1 : Int)) :: c15 :: c16 :: c17 :: c18 :: c19 :: c20 :: c21 :: c22 :: c23 :: c24 :: c25 :: c26 :: c27 :: c28 :: c29 :: c30 :: c31 :: c32 :: c33 :: c34 :: c35 :: c36 :: c37 :: c38 :: c39 :: c40 :: c41 :: c42 :: c43 :: c44 :: c45 :: c46 :: c47 :: c48 :: c49 :: c50 :: c51 :: c52 :: c53 :: c54 :: c55 :: c56 :: c57 :: c58 :: c59 :: c60 :: c61 :: c62 :: c63 :: c64 :: c65 :: c66 :: c67 :: c68 :: c69 :: c70 :: c71 :: c72 :: c73 :: c74 :: c75 :: c76 :: c77 :: c78 :: c79 :: c80 :: c81 :: c82 :: c83 :: c84 :: c85 :: c86 :: c87 :: c88 :: c89 :: c90 :: c91 :: c92 :: c93 :: c94 :: c95 :: c96 :: c97 :: c98 :: c99 :: c100 :: c101 :: c102 :: c103 :: c104 :: c105 :: c106 :: c107 :: c108 :: c109 :: c110 :: c111 :: c112 :: c113 :: c114 :: c115 :: c116 :: c117 :: c118 :: c119 :: c120 :: c121 :: c122 :: c123 :: c124 :: c125 :: c126 :: c127 :: c128 :: c129 :: c130 :: c131 :: c132 :: c133 :: c134 :: c135 :: c136 :: c137 :: c138 :: c139 :: c140 :: c141 :: c142 :: c143 :: c144 :: c145 :: c146 :: c147 :: c148 :: c149 :: c150 :: c151 :: c152 :: c153 :: c154 :: c155 :: c156 :: c157 :: c158 :: c159 :: c160 :: c161 :: c162 :: c163 :: c164 :: c165 :: c166 :: c167 :: c168 :: c169 :: c170 :: c171 :: c172 :: c173 :: c174 :: c175 :: c176 :: c177 :: c178 :: c179 :: c180 :: c181 :: c182 :: c183 :: c184 :: c185 :: c186 :: c187 :: c188 :: c189 :: c190 :: c191 :: c192 :: c193 :: []), []⟩ w4 := by
  conv => arg 2; arg 1; whnf
  go_loopg [14] (n - 1) (fun g s wr => ∃ (k : Nat), g = n - k ∧ 1 ≤ k ∧ k ≤ n ∧ s = .int .i64 k ∧ QRow wr wb n (pre k (fun k => nmd d.nm (d.P k)) np0) ∧ Kp B [] w0 wr)
  case atStart => exact ⟨1, rfl, by omega, by omega, rfl, h1, hK⟩
  case round =>
    clear h1 hK
    rename World => wa
    obtain ⟨k, rfl, hk1, hk, rfl, h1, hK⟩ := hrel
    by_cases hkn : k < n
    · have hPa := HP.out.kp (by rw [HB.out]; exact hK)
      have hv := HV.out k hkn
      have hc := zznamed_any wa p n k d b hPa hkn hn hv.1 hv.2
      have hla := h1.lt
      have hBw : B ≤ wa.heap.size := by omega
      have H1 : Hid (QRow wa wb n (pre k (fun k => nmd d.nm (d.P k)) np0)) := h1
      obtain ⟨⟨xv, xh, xp⟩, hx⟩ : ∃ x, nmd d.nm (d.P k) = x := ⟨_, rfl⟩
      rw [hx] at hc
      have HX2 : Hid (nmd d.nm (d.P k) = ⟨xv, xh, xp⟩) := hx
      unfold npV at hc
      simp only [] at hc
      clear hPa hv hx h1
      go_wp2_with fail
      refine hc.mono ?_
      rintro e w1 ⟨rfl, hk1'⟩
      clear hc
      have hK1 : Kp B [] w0 w1 := hK.trans (hk1'.mono hBw (by simp))
      have hr := H1.out.kp hk1' hla (by simp)
      obtain ⟨⟨x1, x2, x3⟩, y1, y2, y3⟩ := hr.cells k hkn
      have HZ : Hid (QRow (((w1.setCell ⟨wb, k * 3, none⟩ (.string xv)).setCell ⟨wb, k * 3 + 1, none⟩ (.int .i64 (xh : Int))).setCell ⟨wb, k * 3 + 2, none⟩ (.string xp)) wb n (pre (k + 1) (fun k => nmd d.nm (d.P k)) np0)) := pre_step (hr.set hkn ⟨xv, xh, xp⟩) HX2.out.symm
      have HZK : Hid (Kp B [] w0 (((w1.setCell ⟨wb, k * 3, none⟩ (.string xv)).setCell ⟨wb, k * 3 + 1, none⟩ (.int .i64 (xh : Int))).setCell ⟨wb, k * 3 + 2, none⟩ (.string xp))) := ((hK1.setCell (.inl hwb) _).setCell (.inl hwb) _).setCell (.inl hwb) _
      clear hk1' hr hK1 H1 hla
      go_wp2
      go_roundg (n - (k + 1))
      case measure => omega
      case rel => exact ⟨k + 1, rfl, by omega, by omega, by go_num, HZ.out, HZK.out⟩
    · have e : n = k := by omega
      subst e
      have HQ : Hid (QRow wa wb n (fun k => nmd d.nm (d.P k))) := h1.congr (fun k hk => by simp [pre, hk])
      clear h1
      go_wp2
      apply HX.out
      exact ⟨HQ.out, hK⟩
set_option maxHeartbeats 20000000 in
set_option maxRecDepth 1000000 in
theorem law5_loop2 {c0 c1 c2 c3 c4 c5 c6 c7 c8 c9 c10 c14 c15 c19 c20 c21 c22 c23 c24 c25 c26 c27 c28 c29 c30 c31 c32 c33 c34 c35 c36 c37 c38 c39 c40 c41 c42 c43 c44 c45 c46 c47 c48 c49 c50 c51 c52 c53 c54 c55 c56 c57 c58 c59 c60 c61 c62 c63 c64 c65 c66 c67 c68 c69 c70 c71 c72 c73 c74 c75 c76 c77 c78 c79 c80 c81 c82 c83 c84 c85 c86 c87 c88 c89 c90 c91 c92 c93 c94 c95 c96 c97 c98 c99 c100 c101 c102 c103 c104 c105 c106 c107 c108 c109 c110 c111 c112 c113 c114 c115 c116 c117 c118 c119 c120 c121 c122 c123 c124 c125 c126 c127 c128 c129 c130 c131 c132 c133 c134 c135 c136 c137 c138 c139 c140 c141 c142 c143 c144 c145 c146 c147 c148 c149 c150 c151 c152 c153 c154 c155 c156 c157 c158 c159 c160 c161 c162 c163 c164 c165 c166 c167 c168 c169 c170 c171 c172 c173 c174 c175 c176 c177 c178 c179 c180 c181 c182 c183 c184 c185 c186 c187 c188 c189 c190 c191 c192 c193 : Value} {K : Act → World → Prop} {R : Ending → World → Prop} (w0 w4 : World) (p n B wb ib : Nat) (d : PD) (b : PB) (P : Nat → PT) (Fw : Nat → NP) (hn0 : 0 < n) (hn : n ≤ 65536) (HB : Hid (w0.heap.size = B)) (HP : Hid (PsAt w0 p n d b)) (HV : Hid (∀ k, k < n → ((d.P k).hops = 0 ∨ ((d.P k).via < n ∧ (d.P k).prev < n)) ∧ (d.P k).hops ≤ 1000000)) (HE : Hid (∀ k, k < n → npNe (nmd d.nm (d.P k)) (Fw k) = ptNe (d.P k) (P k))) (hwb : wb < B) (hib : B ≤ ib)
    (h0 : QRow w0 wb n Fw) (h1 : QRow w4 ib n (pre 1 (fun k => nmd d.nm (d.P k)) np0)) (hK : Kp B [] w0 w4)
    (HX : Hid (∀ (u17 u18 u19 u20 u21 u22 u23 u24 u25 u26 u27 u28 u29 u30 u31 u32 u33 u34 u35 u36 u37 u38 u39 u40 u41 u42 u43 u44 u45 u46 u47 u48 u49 u50 u51 u52 u53 u54 u55 u56 u57 u58 u59 u60 u61 u62 u63 u64 u65 u66 u67 u68 u69 u70 u71 u72 u73 u74 u75 u76 u77 u78 u79 u80 u81 u82 u83 u84 u85 u86 u87 u88 u89 u90 u91 u92 u93 u94 u95 u96 u97 u98 u99 u100 u101 u102 u103 u104 u105 u106 u107 u108 u109 u110 u111 u112 u113 u114 u115 u116 u117 u118 u119 u120 u121 u122 u123 u124 u125 u126 u127 u128 u129 u130 u131 u132 u133 u134 u135 u136 u137 u138 u139 u140 u141 u142 u143 u144 u145 u146 u147 u148 u149 u150 u151 u152 u153 u154 u155 u156 u157 u158 u159 u160 u161 u162 u163 u164 u165 u166 u167 u168 u169 u170 u171 u172 u173 u174 u175 u176 u177 u178 u179 u180 u181 u182 u183 u184 u185 u186 u187 u188 u189 u190 u191 u192 u193 : Value) (w' : World), (QRow w' ib n (fun k => nmd d.nm (d.P k)) ∧ Kp B [] w0 w' ∧ u17 = .int .i64 ((difs P d.P n).length : Int)) → K ⟨List.toArray (c0 :: c1 :: c2 :: c3 :: c4 :: c5 :: c6 :: c7 :: c8 :: c9 :: c10 :: (Value.pointer (some ⟨p, 0, none⟩)) :: (Value.int IntKind.i64 (n : Int)) :: (Value.slice (some ⟨wb, 0, none⟩) n n) :: c14 :: c15 :: (Value.slice (some ⟨ib, 0, none⟩) n n) :: u17 :: u18 :: u19 :: u20 :: u21 :: u22 :: u23 :: u24 :: u25 :: u26 :: u27 :: u28 :: u29 :: u30 :: u31 :: u32 :: u33 :: u34 :: u35 :: u36 :: u37 :: u38 :: u39 :: u40 :: u41 :: u42 :: u43 :: u44 :: u45 :: u46 :: u47 :: u48 :: u49 :: u50 :: u51 :: u52 :: u53 :: u54 :: u55 :: u56 :: u57 :: u58 :: u59 :: u60 :: u61 :: u62 :: u63 :: u64 :: u65 :: u66 :: u67 :: u68 :: u69 :: u70 :: u71 :: u72 :: u73 :: u74 :: u75 :: u76 :: u77 :: u78 :: u79 :: u80 :: u81 :: u82 :: u83 :: u84 :: u85 :: u86 :: u87 :: u88 :: u89 :: u90 :: u91 :: u92 :: u93 :: u94 :: u95 :: u96 :: u97 :: u98 :: u99 :: u100 :: u101 :: u102 :: u103 :: u104 :: u105 :: u106 :: u107 :: u108 :: u109 :: u110 :: u111 :: u112 :: u113 :: u114 :: u115 :: u116 :: u117 :: u118 :: u119 :: u120 :: u121 :: u122 :: u123 :: u124 :: u125 :: u126 :: u127 :: u128 :: u129 :: u130 :: u131 :: u132 :: u133 :: u134 :: u135 :: u136 :: u137 :: u138 :: u139 :: u140 :: u141 :: u142 :: u143 :: u144 :: u145 :: u146 :: u147 :: u148 :: u149 :: u150 :: u151 :: u152 :: u153 :: u154 :: u155 :: u156 :: u157 :: u158 :: u159 :: u160 :: u161 :: u162 :: u163 :: u164 :: u165 :: u166 :: u167 :: u168 :: u169 :: u170 :: u171 :: u172 :: u173 :: u174 :: u175 :: u176 :: u177 :: u178 :: u179 :: u180 :: u181 :: u182 :: u183 :: u184 :: u185 :: u186 :: u187 :: u188 :: u189 :: u190 :: u191 :: u192 :: u193 :: []), []⟩ w')) :
    Code.wp Try.prog (Code.loop (loopNo 1 Try.f5)) (Exit.inBlock 2 (Exit.then K (bodyPost Try.prog Try.f5 R))) ⟨List.toArray (c0 :: c1 :: c2 :: c3 :: c4 :: c5 :: c6 :: c7 :: c8 :: c9 :: c10 :: (Value.pointer (some ⟨p, 0, none⟩)) :: (Value.int IntKind.i64 (n : Int)) :: (Value.slice (some ⟨wb, 0, none⟩) n n) :: c14 :: c15 :: (Value.slice (some ⟨ib, 0, none⟩) n n) :: (Value.int IntKind.i64 (0 : Int)) :: (Value.int IntKind.i64 (1 : Int)) :: c19 :: c20 :: c21 :: c22 :: c23 :: c24 :: c25 :: c26 :: c27 :: c28 :: c29 :: c30 :: c31 :: c32 :: c33 :: c34 :: c35 :: c36 :: c37 :: c38 :: c39 :: c40 :: c41 :: c42 :: c43 :: c44 :: c45 :: c46 :: c47 :: c48 :: c49 :: c50 :: c51 :: c52 :: c53 :: c54 :: c55 :: c56 :: c57 :: c58 :: c59 :: c60 :: c61 :: c62 :: c63 :: c64 :: c65 :: c66 :: c67 :: c68 :: c69 :: c70 :: c71 :: c72 :: c73 :: c74 :: c75 :: c76 :: c77 :: c78 :: c79 :: c80 :: c81 :: c82 :: c83 :: c84 :: c85 :: c86 :: c87 :: c88 :: c89 :: c90 :: c91 :: c92 :: c93 :: c94 :: c95 :: c96 :: c97 :: c98 :: c99 :: c100 :: c101 :: c102 :: c103 :: c104 :: c105 :: c106 :: c107 :: c108 :: c109 :: c110 :: c111 :: c112 :: c113 :: c114 :: c115 :: c116 :: c117 :: c118 :: c119 :: c120 :: c121 :: c122 :: c123 :: c124 :: c125 :: c126 :: c127 :: c128 :: c129 :: c130 :: c131 :: c132 :: c133 :: c134 :: c135 :: c136 :: c137 :: c138 :: c139 :: c140 :: c141 :: c142 :: c143 :: c144 :: c145 :: c146 :: c147 :: c148 :: c149 :: c150 :: c151 :: c152 :: c153 :: c154 :: c155 :: c156 :: c157 :: c158 :: c159 :: c160 :: c161 :: c162 :: c163 :: c164 :: c165 :: c166 :: c167 :: c168 :: c169 :: c170 :: c171 :: c172 :: c173 :: c174 :: c175 :: c176 :: c177 :: c178 :: c179 :: c180 :: c181 :: c182 :: c183 :: c184 :: c185 :: c186 :: c187 :: c188 :: c189 :: c190 :: c191 :: c192 :: c193 :: []), []⟩ w4 := by
  conv => arg 2; arg 1; whnf
  have H0 : Hid (QRow w0 wb n Fw) := h0
  clear h0
  go_loopg [17, 18] (n - 1) (fun g df s wr => ∃ (k : Nat), g = n - k ∧ 1 ≤ k ∧ k ≤ n ∧ s = .int .i64 k ∧ df = .int .i64 ((difs P d.P k).length : Int) ∧ QRow wr ib n (pre k (fun k => nmd d.nm (d.P k)) np0) ∧ Kp B [] w0 wr)
  case atStart => exact ⟨1, rfl, by omega, by omega, rfl, by rw [difs_one]; rfl, h1, hK⟩
  case round =>
    clear h1 hK
    rename World => wa
    obtain ⟨k, rfl, hk1, hk, rfl, rfl, h1, hK⟩ := hrel
    by_cases hkn : k < n
    · have hPa := HP.out.kp (by rw [HB.out]; exact hK)
      have hv := HV.out k hkn
      have hc := zznamed_any wa p n k d b hPa hkn hn hv.1 hv.2
      have hla := h1.lt
      have hBw : B ≤ wa.heap.size := by omega
      have H1 : Hid (QRow wa ib n (pre k (fun k => nmd d.nm (d.P k)) np0)) := h1
      obtain ⟨⟨xv, xh, xp⟩, hx⟩ : ∃ x, nmd d.nm (d.P k) = x := ⟨_, rfl⟩
      have hE := HE.out k hkn
      obtain ⟨⟨yv, yh, yp⟩, hy⟩ : ∃ y, Fw k = y := ⟨_, rfl⟩
      rw [hx, hy] at hE
      rw [hx] at hc
      have HX2 : Hid (nmd d.nm (d.P k) = ⟨xv, xh, xp⟩) := hx
      have HY2 : Hid (Fw k = ⟨yv, yh, yp⟩) := hy
      have hdl := difs_len P d.P k
      have hds := difs_succ P d.P k hk1
      rw [← hE] at hds
      have heq := equal45 xv xh xp yv yh yp
      obtain ⟨bb, hbb⟩ : ∃ bb, npNe ⟨xv, xh, xp⟩ ⟨yv, yh, yp⟩ = bb := ⟨_, rfl⟩
      rw [hbb] at hds heq
      obtain ⟨dl, hdle⟩ : ∃ dl, (difs P d.P k).length = dl := ⟨_, rfl⟩
      rw [hdle] at hdl ⊢
      have HDS : Hid ((difs P d.P (k + 1)).length = dl + if bb = true then 1 else 0) := by
        show (difs P d.P (k + 1)).length = dl + if bb = true then 1 else 0
        rw [hds, List.length_append, hdle]
        cases bb <;> rfl
      unfold npV at hc
      simp only [] at hc
      clear hPa hv hx hy h1 hE hds hbb hdle
      go_wp2_with fail
      refine hc.mono ?_
      rintro e w1 ⟨rfl, hk1'⟩
      clear hc
      have hK1 : Kp B [] w0 w1 := hK.trans (hk1'.mono hBw (by simp))
      have hr := H1.out.kp hk1' hla (by simp)
      obtain ⟨⟨x1, x2, x3⟩, y1, y2, y3⟩ := hr.cells k hkn
      have hZ : QRow (((w1.setCell ⟨ib, k * 3, none⟩ (.string xv)).setCell ⟨ib, k * 3 + 1, none⟩ (.int .i64 (xh : Int))).setCell ⟨ib, k * 3 + 2, none⟩ (.string xp)) ib n (pre (k + 1) (fun k => nmd d.nm (d.P k)) np0) := pre_step (hr.set hkn ⟨xv, xh, xp⟩) HX2.out.symm
      have hZK : Kp B [] w0 (((w1.setCell ⟨ib, k * 3, none⟩ (.string xv)).setCell ⟨ib, k * 3 + 1, none⟩ (.int .i64 (xh : Int))).setCell ⟨ib, k * 3 + 2, none⟩ (.string xp)) := ((hK1.setCell (.inl hib) _).setCell (.inl hib) _).setCell (.inl hib) _
      clear hk1' hr hK1 H1 hla
      go_upto_region 28 with fail
      generalize ((w1.setCell ⟨ib, k * 3, none⟩ (.string xv)).setCell ⟨ib, k * 3 + 1, none⟩ (.int .i64 (xh : Int))).setCell ⟨ib, k * 3 + 2, none⟩ (.string xp) = w2 at *
      clear x1 x2 x3 y1 y2 y3
      obtain ⟨⟨x1, x2, x3⟩, _⟩ := hZ.cells k hkn
      rw [show pre (k + 1) (fun k => nmd d.nm (d.P k)) np0 k = ⟨xv, xh, xp⟩ from by simp [pre, HX2.out]] at x1 x2 x3
      obtain ⟨⟨z1, z2, z3⟩, _⟩ := (H0.out.kp hZK hwb (by simp)).cells k hkn
      rw [HY2.out] at z1 z2 z3
      simp only [] at x1 x2 x3 z1 z2 z3
      have HZ : Hid (QRow w2 ib n (pre (k + 1) (fun k => nmd d.nm (d.P k)) np0)) := hZ
      have HZK : Hid (Kp B [] w0 w2) := hZK
      clear hZ hZK
      go_quiet (fail)
      cases bb with
      | false =>
        go_wp2
        go_roundg (n - (k + 1))
        case measure => omega
        case rel => exact ⟨k + 1, rfl, by omega, by omega, by go_num, by rw [HDS.out]; rfl, HZ.out.drewN _, HZK.out.drewN _⟩
      | true =>
        go_wp2
        go_roundg (n - (k + 1))
        case measure => omega
        case rel => exact ⟨k + 1, rfl, by omega, by omega, by go_num, by rw [HDS.out]; go_num, HZ.out.drewN _, HZK.out.drewN _⟩
    · have e : n = k := by omega
      subst e
      have HQ : Hid (QRow wa ib n (fun k => nmd d.nm (d.P k))) := h1.congr (fun k hk => by simp [pre, hk])
      clear h1
      go_wp2
      apply HX.out
      exact ⟨HQ.out, hK, rfl⟩
set_option maxHeartbeats 20000000 in
set_option maxRecDepth 1000000 in
theorem law5_loop3 {c0 c1 c2 c3 c4 c5 c6 c7 c8 c9 c10 c14 c17 c18 c20 c21 c22 c23 c24 c25 c26 c27 c28 c29 c30 c31 c32 c33 c34 c35 c36 c37 c38 c39 c40 c41 c42 c43 c44 c45 c46 c47 c48 c49 c50 c51 c52 c53 c54 c55 c56 c57 c58 c59 c60 c61 c62 c63 c64 c65 c66 c67 c68 c69 c70 c71 c72 c73 c74 c75 c76 c77 c78 c79 c80 c81 c82 c83 c84 c85 c86 c87 c88 c89 c90 c91 c92 c93 c94 c95 c96 c97 c98 c99 c100 c101 c102 c103 c104 c105 c106 c107 c108 c109 c110 c111 c112 c113 c114 c115 c116 c117 c118 c119 c120 c121 c122 c123 c124 c125 c126 c127 c128 c129 c130 c131 c132 c133 c134 c135 c136 c137 c138 c139 c140 c141 c142 c143 c144 c145 c146 c147 c148 c149 c150 c151 c152 c153 c154 c155 c156 c157 c158 c159 c160 c161 c162 c163 c164 c165 c166 c167 c168 c169 c170 c171 c172 c173 c174 c175 c176 c177 c178 c179 c180 c181 c182 c183 c184 c185 c186 c187 c188 c189 c190 c191 c192 c193 : Value} {K : Act → World → Prop} {R : Ending → World → Prop} (w0 : World) (p n B base cc wb ib cl : Nat) (ca : Option Addr) (d : PD) (b : PB) (Fw Fi : Nat → NP) (C : List CH) (hn0 : 0 < n) (hn : n ≤ 65536) (HB : Hid (w0.heap.size = B)) (HP : Hid (PsAt w0 p n d b)) (h0 : QRow w0 wb n Fw) (h1 : QRow w0 ib n Fi) (hcl : cl ≤ 65536) (HCL : Hid (C.length = cl))
    (HC : Hid (w0.ownsRow base 48 7 (.slice ca cl cc) cl (chs C))) (HF : Hid (∀ (i : Nat) (x : CH), C[i]? = some x → ∃ k, 0 < k ∧ k < n ∧ x = ⟨d.nm k, Fw k, Fi k⟩ ∧ Fw k ≠ Fi k ∧ d.num (d.nm k) = some (k : Int) ∧ (d.nm k).size ≤ maxLen)) (HS : Hid (∀ (i : Nat) (x y : CH), C[i]? = some x → C[i + 1]? = some y → PL.nlt x.nm y.nm = true))
    (HX : Hid (∀ (u8 u19 u20 u21 u22 u23 u24 u25 u26 u27 u28 u29 u30 u31 u32 u33 u34 u35 u36 u37 u38 u39 u40 u41 u42 u43 u44 u45 u46 u47 u48 u49 u50 u51 u52 u53 u54 u55 u56 u57 u58 u59 u60 u61 u62 u63 u64 u65 u66 u67 u68 u69 u70 u71 u72 u73 u74 u75 u76 u77 u78 u79 u80 u81 u82 u83 u84 u85 u86 u87 u88 u89 u90 u91 u92 u93 u94 u95 u96 u97 u98 u99 u100 u101 u102 u103 u104 u105 u106 u107 u108 u109 u110 u111 u112 u113 u114 u115 u116 u117 u118 u119 u120 u121 u122 u123 u124 u125 u126 u127 u128 u129 u130 u131 u132 u133 u134 u135 u136 u137 u138 u139 u140 u141 u142 u143 u144 u145 u146 u147 u148 u149 u150 u151 u152 u153 u154 u155 u156 u157 u158 u159 u160 u161 u162 u163 u164 u165 u166 u167 u168 u169 u170 u171 u172 u173 u174 u175 u176 u177 u178 u179 u180 u181 u182 u183 u184 u185 u186 u187 u188 u189 u190 u191 u192 u193 : Value) (w' : World), Kp B [] w0 w' → K ⟨List.toArray (c0 :: c1 :: c2 :: c3 :: c4 :: c5 :: c6 :: c7 :: u8 :: c9 :: c10 :: (Value.pointer (some ⟨p, 0, none⟩)) :: (Value.int IntKind.i64 (n : Int)) :: (Value.slice (some ⟨wb, 0, none⟩) n n) :: c14 :: (Value.slice ca cl cc) :: (Value.slice (some ⟨ib, 0, none⟩) n n) :: c17 :: c18 :: u19 :: u20 :: u21 :: u22 :: u23 :: u24 :: u25 :: u26 :: u27 :: u28 :: u29 :: u30 :: u31 :: u32 :: u33 :: u34 :: u35 :: u36 :: u37 :: u38 :: u39 :: u40 :: u41 :: u42 :: u43 :: u44 :: u45 :: u46 :: u47 :: u48 :: u49 :: u50 :: u51 :: u52 :: u53 :: u54 :: u55 :: u56 :: u57 :: u58 :: u59 :: u60 :: u61 :: u62 :: u63 :: u64 :: u65 :: u66 :: u67 :: u68 :: u69 :: u70 :: u71 :: u72 :: u73 :: u74 :: u75 :: u76 :: u77 :: u78 :: u79 :: u80 :: u81 :: u82 :: u83 :: u84 :: u85 :: u86 :: u87 :: u88 :: u89 :: u90 :: u91 :: u92 :: u93 :: u94 :: u95 :: u96 :: u97 :: u98 :: u99 :: u100 :: u101 :: u102 :: u103 :: u104 :: u105 :: u106 :: u107 :: u108 :: u109 :: u110 :: u111 :: u112 :: u113 :: u114 :: u115 :: u116 :: u117 :: u118 :: u119 :: u120 :: u121 :: u122 :: u123 :: u124 :: u125 :: u126 :: u127 :: u128 :: u129 :: u130 :: u131 :: u132 :: u133 :: u134 :: u135 :: u136 :: u137 :: u138 :: u139 :: u140 :: u141 :: u142 :: u143 :: u144 :: u145 :: u146 :: u147 :: u148 :: u149 :: u150 :: u151 :: u152 :: u153 :: u154 :: u155 :: u156 :: u157 :: u158 :: u159 :: u160 :: u161 :: u162 :: u163 :: u164 :: u165 :: u166 :: u167 :: u168 :: u169 :: u170 :: u171 :: u172 :: u173 :: u174 :: u175 :: u176 :: u177 :: u178 :: u179 :: u180 :: u181 :: u182 :: u183 :: u184 :: u185 :: u186 :: u187 :: u188 :: u189 :: u190 :: u191 :: u192 :: u193 :: []), []⟩ w')) :
    Code.wp Try.prog (Code.loop (loopNo 2 Try.f5)) (Exit.inBlock 4 (Exit.then K (bodyPost Try.prog Try.f5 R))) ⟨List.toArray (c0 :: c1 :: c2 :: c3 :: c4 :: c5 :: c6 :: c7 :: c8 :: c9 :: c10 :: (Value.pointer (some ⟨p, 0, none⟩)) :: (Value.int IntKind.i64 (n : Int)) :: (Value.slice (some ⟨wb, 0, none⟩) n n) :: c14 :: (Value.slice ca cl cc) :: (Value.slice (some ⟨ib, 0, none⟩) n n) :: c17 :: c18 :: (Value.int IntKind.i64 (0 : Int)) :: c20 :: c21 :: c22 :: c23 :: c24 :: c25 :: c26 :: c27 :: c28 :: c29 :: c30 :: c31 :: c32 :: c33 :: c34 :: c35 :: c36 :: c37 :: c38 :: c39 :: c40 :: c41 :: c42 :: c43 :: c44 :: c45 :: c46 :: c47 :: c48 :: c49 :: c50 :: c51 :: c52 :: c53 :: c54 :: c55 :: c56 :: c57 :: c58 :: c59 :: c60 :: c61 :: c62 :: c63 :: c64 :: c65 :: c66 :: c67 :: c68 :: c69 :: c70 :: c71 :: c72 :: c73 :: c74 :: c75 :: c76 :: c77 :: c78 :: c79 :: c80 :: c81 :: c82 :: c83 :: c84 :: c85 :: c86 :: c87 :: c88 :: c89 :: c90 :: c91 :: c92 :: c93 :: c94 :: c95 :: c96 :: c97 :: c98 :: c99 :: c100 :: c101 :: c102 :: c103 :: c104 :: c105 :: c106 :: c107 :: c108 :: c109 :: c110 :: c111 :: c112 :: c113 :: c114 :: c115 :: c116 :: c117 :: c118 :: c119 :: c120 :: c121 :: c122 :: c123 :: c124 :: c125 :: c126 :: c127 :: c128 :: c129 :: c130 :: c131 :: c132 :: c133 :: c134 :: c135 :: c136 :: c137 :: c138 :: c139 :: c140 :: c141 :: c142 :: c143 :: c144 :: c145 :: c146 :: c147 :: c148 :: c149 :: c150 :: c151 :: c152 :: c153 :: c154 :: c155 :: c156 :: c157 :: c158 :: c159 :: c160 :: c161 :: c162 :: c163 :: c164 :: c165 :: c166 :: c167 :: c168 :: c169 :: c170 :: c171 :: c172 :: c173 :: c174 :: c175 :: c176 :: c177 :: c178 :: c179 :: c180 :: c181 :: c182 :: c183 :: c184 :: c185 :: c186 :: c187 :: c188 :: c189 :: c190 :: c191 :: c192 :: c193 :: []), []⟩ w0 := by
  conv => arg 2; arg 1; whnf
  have H0 : Hid (QRow w0 wb n Fw) := h0
  have H1 : Hid (QRow w0 ib n Fi) := h1
  have hwb : wb < B := by rw [← HB.out]; exact h0.lt
  have hib : ib < B := by rw [← HB.out]; exact h1.lt
  clear h0 h1
  have HROW : Hid (0 < cl → ∃ g, ca = some ⟨g, 0, none⟩ ∧ g < B ∧ ∃ rest, Row w0 g 48 (chs C ++ rest)) := by
    intro h
    obtain ⟨g, cap, rest, hv, _, hr, _⟩ := owns_to_rowC HC.out h
    simp only [Value.slice.injEq] at hv
    exact ⟨g, hv.1, by rw [← HB.out]; exact hr.lt, rest, hr⟩
  go_loopg [19] cl (fun g s wr => ∃ (i : Nat), g = cl - i ∧ i ≤ cl ∧ s = .int .i64 i ∧ Kp B [] w0 wr)
  case atStart => exact ⟨0, rfl, by omega, rfl, Kp.refl _ _ _⟩
  case round =>
    rename World => wa
    obtain ⟨i, rfl, hi, rfl, hK⟩ := hrel
    by_cases hil : i < cl
    · obtain ⟨g, rfl, hgB, rest, hrow⟩ := HROW.out (by omega)
      have hrowa := hrow.kp hK hgB (by simp)
      obtain ⟨x, hx⟩ : ∃ x, C[i]? = some x := ⟨_, List.getElem?_eq_getElem (by rw [HCL.out]; exact hil)⟩
      have e0 := hrowa.cell (at_left (chs_cell hx (j := 0) (by omega) rfl))
      have e1 := hrowa.cell (at_left (chs_cell hx (j := 1) (by omega) rfl))
      have e2 := hrowa.cell (at_left (chs_cell hx (j := 2) (by omega) rfl))
      have e3 := hrowa.cell (at_left (chs_cell hx (j := 3) (by omega) rfl))
      have e4 := hrowa.cell (at_left (chs_cell hx (j := 4) (by omega) rfl))
      have e5 := hrowa.cell (at_left (chs_cell hx (j := 5) (by omega) rfl))
      have e6 := hrowa.cell (at_left (chs_cell hx (j := 6) (by omega) rfl))
      obtain ⟨k, hk0, hkn, hxe, hne, hnum, hsz⟩ := HF.out i x hx
      have HHX : Hid (C[i]? = some x) := hx
      have HHR : Hid (Row w0 g 48 (chs C ++ rest)) := hrow
      have HXE : Hid (x = ⟨d.nm k, Fw k, Fi k⟩) := hxe
      have HNE : Hid (Fw k ≠ Fi k) := hne
      have HNUM : Hid (d.num (d.nm k) = some (k : Int)) := hnum
      have HSZ : Hid ((d.nm k).size ≤ maxLen) := hsz
      have hBw : B ≤ wa.heap.size := by rw [← HB.out]; exact hK.size
      obtain ⟨nm, ⟨wv, wh, wp⟩, ⟨iv, ih, ip⟩⟩ := x
      simp only [Nat.add_zero] at e0
      simp only [] at e0 e1 e2 e3 e4 e5 e6
      clear hrow hrowa hx hxe hne hnum hsz
      go_upto_region 36 with fail
      obtain ⟨kb, hkb⟩ : ∃ kb, wa.heap.size = kb := ⟨_, rfl⟩
      have hr1 := row_set7 (w := wa) kb hkb ⟨nm, ⟨wv, wh, wp⟩, ⟨iv, ih, ip⟩⟩
      have hK1 : Kp B [] w0 (wa.alloc (Obj.cells #[Value.string nm, Value.string wv, Value.int IntKind.i64 (wh : Int), Value.string wp, Value.string iv, Value.int IntKind.i64 (ih : Int), Value.string ip] 48)) := hK.alloc hBw _
      rw [hkb] at hBw ⊢
      simp only [] at hr1
      have hs1 : (wa.alloc (Obj.cells #[Value.string nm, Value.string wv, Value.int IntKind.i64 (wh : Int), Value.string wp, Value.string iv, Value.int IntKind.i64 (ih : Int), Value.string ip] 48)).heap.size = kb + 1 := by rw [World.size_alloc, hkb]
      generalize wa.alloc (Obj.cells #[Value.string nm, Value.string wv, Value.int IntKind.i64 (wh : Int), Value.string wp, Value.string iv, Value.int IntKind.i64 (ih : Int), Value.string ip] 48) = w1 at *
      clear e0 e1 e2 e3 e4 e5 e6 hkb
      have HR1 : Hid (Row w1 kb 48 (chC ⟨nm, ⟨wv, wh, wp⟩, ⟨iv, ih, ip⟩⟩)) := hr1
      have HK1 : Hid (Kp B [] w0 w1) := hK1
      have r0 := hr1.cell (i := 0) rfl
      clear hr1 hK
      go_cut [152] (fun vv wc => vv = .bool false ∧ ∃ q1, wc = w1.drewN q1)
      case first =>
        by_cases h0 : i = 0
        · have g1 : decide ((0 : Int) < (i : Int)) = false := by simp <;> omega
          have g2 : decide (0 < i) = false := by simp <;> omega
          clear h0
          go_quiet (fail)
          go_wp2
          go_meet
          case rel => exact ⟨rfl, nq, rfl⟩
        · have g1 : decide ((0 : Int) < (i : Int)) = true := by simp <;> omega
          have g2 : decide (0 < i) = true := by simp <;> omega
          have hi1 : 1 ≤ i := by omega
          obtain ⟨y, hy⟩ : ∃ y, C[i - 1]? = some y := ⟨_, List.getElem?_eq_getElem (by rw [HCL.out]; omega)⟩
          have hlt := HS.out (i - 1) y _ hy (by rw [show i - 1 + 1 = i by omega]; exact HHX.out)
          have p0 := (HHR.out.kp HK1.out hgB (by simp)).cell (at_left (chs_cell hy (j := 0) (by omega) rfl))
          simp only [Nat.add_zero] at p0
          obtain ⟨ynm, yw, yi⟩ := y
          unfold PL.nlt at hlt
          simp only [] at hlt p0
          clear hy h0
          go_quiet (fail)
          go_wp2
          go_meet
          case rel => exact ⟨rfl, nq, rfl⟩
      case rest =>
        obtain ⟨rfl, q1, hwc⟩ := hcut
        have HWC : Hid (wc = w1.drewN q1) := hwc
        have hKc : Kp B [] w0 wc := by rw [hwc]; exact HK1.out.drewN q1
        have hRc : Row wc kb 48 (chC ⟨nm, ⟨wv, wh, wp⟩, ⟨iv, ih, ip⟩⟩) := by rw [hwc]; exact HR1.out.drewN q1
        have hsc : wc.heap.size = kb + 1 := by rw [hwc]; exact hs1
        have c0 := hRc.cell (i := 0) rfl
        simp only [] at c0
        clear hwc r0
        have hPc := HP.out.kp (by rw [HB.out]; exact hKc)
        have e1 : nm = d.nm k := congrArg CH.nm HXE.out
        have e2 : (⟨wv, wh, wp⟩ : NP) = Fw k := congrArg CH.was HXE.out
        have e3 : (⟨iv, ih, ip⟩ : NP) = Fi k := congrArg CH.is HXE.out
        have hcall := number_any wc p n nm d b hPc (by rw [e1]; exact HSZ.out)
        rw [e1, HNUM.out] at hcall
        rw [← e1] at hcall
        simp only [Option.getD_some, Option.isSome_some] at hcall
        have HE2 : Hid ((⟨wv, wh, wp⟩ : NP) = Fw k ∧ (⟨iv, ih, ip⟩ : NP) = Fi k) := ⟨e2, e3⟩
        have HKC : Hid (Kp B [] w0 wc) := hKc
        have HRC : Hid (Row wc kb 48 (chC ⟨nm, ⟨wv, wh, wp⟩, ⟨iv, ih, ip⟩⟩)) := hRc
        clear e1 e2 e3 hPc hKc hRc
        go_wp2_with fail
        refine hcall.mono ?_
        rintro e w2 ⟨rfl, hw2⟩
        rw [hw2]
        clear hcall hw2
        have g1 : decide ((k : Int) ≤ 0) = false := by simp <;> omega
        have g2 : decide ((n : Int) ≤ (k : Int)) = false := by simp <;> omega
        have g3 : decide (n ≤ k) = false := by simp <;> omega
        have r1 := HRC.out.cell (i := 1) rfl
        have r2 := HRC.out.cell (i := 2) rfl
        have r3 := HRC.out.cell (i := 3) rfl
        have r4 := HRC.out.cell (i := 4) rfl
        have r5 := HRC.out.cell (i := 5) rfl
        have r6 := HRC.out.cell (i := 6) rfl
        obtain ⟨⟨x1, x2, x3⟩, _⟩ := (H0.out.kp HKC.out hwb (by simp)).cells k hkn
        obtain ⟨⟨z1, z2, z3⟩, _⟩ := (H1.out.kp HKC.out hib (by simp)).cells k hkn
        rw [← HE2.out.1] at x1 x2 x3
        rw [← HE2.out.2] at z1 z2 z3
        simp only [] at x1 x2 x3 z1 z2 z3 r1 r2 r3 r4 r5 r6
        have q1e := equal45 wv wh wp iv ih ip
        have q2e := equal45 wv wh wp wv wh wp
        have q3e := equal45 iv ih ip iv ih ip
        rw [npNe_yes (by rw [HE2.out.1, HE2.out.2]; exact HNE.out)] at q1e
        rw [npNe_self] at q2e q3e
        clear hsc
        go_upto_region 41 with fail
        go_quiet (fail)
        go_wp2
        go_roundg (cl - (i + 1))
        case measure => omega
        case rel => exact ⟨i + 1, rfl, by omega, by go_num, HKC.out.drewN _⟩
    · have e : cl = i := by omega
      subst e
      go_wp2
      apply HX.out
      exact hK
end Go.Proofs.Qxb6600010a
