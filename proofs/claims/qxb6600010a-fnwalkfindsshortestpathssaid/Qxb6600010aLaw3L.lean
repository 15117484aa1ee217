/-
  THE LOOPS OF FnWalkFindsShortestPaths.
-/
import Derived.Test.Qxb6600010aRead
import Derived.Test.Qxb6600010aBuildP
import Derived.BigQuiet
namespace Go.Proofs.Qxb6600010a
open Go.RowKit
set_option linter.unusedVariables false
set_option linter.unusedSimpArgs false
attribute [local go_sem ↓] Go.wp_at_zero Go.wp_at_succ

namespace PL
/-- What the law writes for a distance: -1 where a node is not reached. -/
def hF (P : Nat → PT) (k : Nat) : Int := if k = 0 then 0 else if (P k).hops = 0 then -1 else ((P k).hops : Int)
theorem hF_zero (P : Nat → PT) : hF P 0 = 0 := rfl
end PL
theorem tab_ints_pre (n k : Nat) (f : Nat → Int) (v : Int) (h : v = f k) : (ints (tab n (pre k f 0))).set k (.int .i64 v) = ints (tab n (pre (k + 1) f 0)) := by
  rw [ints_set, tab_pre' n k f 0 v h]
set_option maxHeartbeats 20000000 in
set_option maxRecDepth 1000000 in
theorem law3_loop1 {c0 c1 c2 c3 c4 c5 c6 c7 c8 c9 c10 c17 c18 c19 c20 c21 c22 c23 c24 c25 c26 c27 c28 c29 c30 c31 c32 c33 c34 c35 c36 c37 c38 c39 c40 c41 c42 c43 c44 c45 c46 c47 c48 c49 c50 c51 c52 c53 c54 c55 c56 c57 c58 c59 c60 c61 c62 c63 c64 c65 c66 c67 c68 c69 c70 c71 c72 c73 c74 c75 c76 c77 c78 c79 c80 c81 c82 c83 c84 c85 c86 c87 c88 c89 c90 c91 c92 c93 c94 c95 c96 c97 c98 c99 c100 c101 c102 c103 c104 c105 c106 c107 c108 c109 c110 c111 c112 c113 c114 c115 c116 c117 c118 c119 c120 c121 c122 c123 c124 c125 c126 c127 c128 c129 c130 c131 c132 c133 c134 c135 c136 c137 c138 c139 c140 c141 c142 c143 c144 c145 c146 c147 c148 c149 c150 c151 c152 c153 c154 c155 c156 c157 c158 c159 c160 c161 c162 c163 c164 c165 c166 c167 c168 c169 c170 c171 c172 c173 c174 c175 c176 c177 c178 c179 c180 c181 c182 c183 c184 c185 c186 c187 c188 c189 c190 c191 c192 c193 c194 c195 c196 c197 c198 c199 c200 c201 c202 c203 c204 c205 c206 c207 c208 c209 c210 c211 c212 c213 c214 c215 c216 c217 c218 c219 c220 c221 c222 c223 c224 c225 c226 c227 c228 c229 c230 c231 c232 c233 c234 c235 c236 c237 c238 c239 c240 c241 c242 c243 c244 c245 c246 c247 c248 c249 c250 c251 c252 c253 c254 c255 c256 c257 c258 c259 c260 c261 c262 c263 c264 c265 c266 c267 c268 c269 c270 c271 c272 c273 c274 c275 c276 c277 c278 c279 c280 c281 c282 c283 c284 c285 c286 c287 c288 c289 c290 c291 c292 c293 c294 c295 c296 c297 c298 c299 : Value} {K : Act → World → Prop} {R : Ending → World → Prop} (w0 w4 : World) (p n B vb rb hb : Nat) (d : PD) (b : PB) (J : Nat → List Nat) (rk : Nat → Nat) (hn0 : 0 < n) (hn : n ≤ 65536) (HB : Hid (w0.heap.size = B)) (HP : Hid (PsAt w0 p n d b)) (HF : Hid (PL.BFin n J rk d.P)) (hvb : B ≤ vb) (hrb : B ≤ rb) (hhb : B ≤ hb) (hvr : vb ≠ rb) (hvh : vb ≠ hb) (hrh : rb ≠ hb)
    (h1 : Row w4 vb 3 (nats (tab n (pre 1 (fun k => (d.P k).via) 0)))) (h2 : Row w4 rb 3 (nats (tab n (pre 1 (fun k => (d.P k).prev) 0)))) (h3 : Row w4 hb 3 (ints (tab n (pre 1 (PL.hF d.P) 0)))) (hK : Kp B [] w0 w4)
    (HX : Hid (∀ (u8 u16 u17 u18 u19 u20 u21 u22 u23 u24 u25 u26 u27 u28 u29 u30 u31 u32 u33 u34 u35 u36 u37 u38 u39 u40 u41 u42 u43 u44 u45 u46 u47 u48 u49 u50 u51 u52 u53 u54 u55 u56 u57 u58 u59 u60 u61 u62 u63 u64 u65 u66 u67 u68 u69 u70 u71 u72 u73 u74 u75 u76 u77 u78 u79 u80 u81 u82 u83 u84 u85 u86 u87 u88 u89 u90 u91 u92 u93 u94 u95 u96 u97 u98 u99 u100 u101 u102 u103 u104 u105 u106 u107 u108 u109 u110 u111 u112 u113 u114 u115 u116 u117 u118 u119 u120 u121 u122 u123 u124 u125 u126 u127 u128 u129 u130 u131 u132 u133 u134 u135 u136 u137 u138 u139 u140 u141 u142 u143 u144 u145 u146 u147 u148 u149 u150 u151 u152 u153 u154 u155 u156 u157 u158 u159 u160 u161 u162 u163 u164 u165 u166 u167 u168 u169 u170 u171 u172 u173 u174 u175 u176 u177 u178 u179 u180 u181 u182 u183 u184 u185 u186 u187 u188 u189 u190 u191 u192 u193 u194 u195 u196 u197 u198 u199 u200 u201 u202 u203 u204 u205 u206 u207 u208 u209 u210 u211 u212 u213 u214 u215 u216 u217 u218 u219 u220 u221 u222 u223 u224 u225 u226 u227 u228 u229 u230 u231 u232 u233 u234 u235 u236 u237 u238 u239 u240 u241 u242 u243 u244 u245 u246 u247 u248 u249 u250 u251 u252 u253 u254 u255 u256 u257 u258 u259 u260 u261 u262 u263 u264 u265 u266 u267 u268 u269 u270 u271 u272 u273 u274 u275 u276 u277 u278 u279 u280 u281 u282 u283 u284 u285 u286 u287 u288 u289 u290 u291 u292 u293 u294 u295 u296 u297 u298 u299 : Value) (w' : World), Row w' vb 3 (nats (tab n (fun k => (d.P k).via))) ∧ Row w' rb 3 (nats (tab n (fun k => (d.P k).prev))) ∧ Row w' hb 3 (ints (tab n (PL.hF d.P))) ∧ Kp B [] w0 w' → K ⟨List.toArray (c0 :: c1 :: c2 :: c3 :: c4 :: c5 :: c6 :: c7 :: u8 :: c9 :: c10 :: (Value.pointer (some ⟨p, 0, none⟩)) :: (Value.int IntKind.i64 (n : Int)) :: (Value.slice (some ⟨vb, 0, none⟩) n n) :: (Value.slice (some ⟨rb, 0, none⟩) n n) :: (Value.slice (some ⟨hb, 0, none⟩) n n) :: u16 :: u17 :: u18 :: u19 :: u20 :: u21 :: u22 :: u23 :: u24 :: u25 :: u26 :: u27 :: u28 :: u29 :: u30 :: u31 :: u32 :: u33 :: u34 :: u35 :: u36 :: u37 :: u38 :: u39 :: u40 :: u41 :: u42 :: u43 :: u44 :: u45 :: u46 :: u47 :: u48 :: u49 :: u50 :: u51 :: u52 :: u53 :: u54 :: u55 :: u56 :: u57 :: u58 :: u59 :: u60 :: u61 :: u62 :: u63 :: u64 :: u65 :: u66 :: u67 :: u68 :: u69 :: u70 :: u71 :: u72 :: u73 :: u74 :: u75 :: u76 :: u77 :: u78 :: u79 :: u80 :: u81 :: u82 :: u83 :: u84 :: u85 :: u86 :: u87 :: u88 :: u89 :: u90 :: u91 :: u92 :: u93 :: u94 :: u95 :: u96 :: u97 :: u98 :: u99 :: u100 :: u101 :: u102 :: u103 :: u104 :: u105 :: u106 :: u107 :: u108 :: u109 :: u110 :: u111 :: u112 :: u113 :: u114 :: u115 :: u116 :: u117 :: u118 :: u119 :: u120 :: u121 :: u122 :: u123 :: u124 :: u125 :: u126 :: u127 :: u128 :: u129 :: u130 :: u131 :: u132 :: u133 :: u134 :: u135 :: u136 :: u137 :: u138 :: u139 :: u140 :: u141 :: u142 :: u143 :: u144 :: u145 :: u146 :: u147 :: u148 :: u149 :: u150 :: u151 :: u152 :: u153 :: u154 :: u155 :: u156 :: u157 :: u158 :: u159 :: u160 :: u161 :: u162 :: u163 :: u164 :: u165 :: u166 :: u167 :: u168 :: u169 :: u170 :: u171 :: u172 :: u173 :: u174 :: u175 :: u176 :: u177 :: u178 :: u179 :: u180 :: u181 :: u182 :: u183 :: u184 :: u185 :: u186 :: u187 :: u188 :: u189 :: u190 :: u191 :: u192 :: u193 :: u194 :: u195 :: u196 :: u197 :: u198 :: u199 :: u200 :: u201 :: u202 :: u203 :: u204 :: u205 :: u206 :: u207 :: u208 :: u209 :: u210 :: u211 :: u212 :: u213 :: u214 :: u215 :: u216 :: u217 :: u218 :: u219 :: u220 :: u221 :: u222 :: u223 :: u224 :: u225 :: u226 :: u227 :: u228 :: u229 :: u230 :: u231 :: u232 :: u233 :: u234 :: u235 :: u236 :: u237 :: u238 :: u239 :: u240 :: u241 :: u242 :: u243 :: u244 :: u245 :: u246 :: u247 :: u248 :: u249 :: u250 :: u251 :: u252 :: u253 :: u254 :: u255 :: u256 :: u257 :: u258 :: u259 :: u260 :: u261 :: u262 :: u263 :: u264 :: u265 :: u266 :: u267 :: u268 :: u269 :: u270 :: u271 :: u272 :: u273 :: u274 :: u275 :: u276 :: u277 :: u278 :: u279 :: u280 :: u281 :: u282 :: u283 :: u284 :: u285 :: u286 :: u287 :: u288 :: u289 :: u290 :: u291 :: u292 :: u293 :: u294 :: u295 :: u296 :: u297 :: u298 :: u299 :: []), []⟩ w')) :
    Code.wp Try.prog (Code.loop (loopNo 0 Try.f3)) (Exit.inBlock 0 (Exit.then K (bodyPost Try.prog Try.f3 R))) ⟨List.toArray (c0 :: c1 :: c2 :: c3 :: c4 :: c5 :: c6 :: c7 :: c8 :: c9 :: c10 :: (Value.pointer (some ⟨p, 0, none⟩)) :: (Value.int IntKind.i64 (n : Int)) :: (Value.slice (some ⟨vb, 0, none⟩) n n) :: (Value.slice (some ⟨rb, 0, none⟩) n n) :: (Value.slice (some ⟨hb, 0, none⟩) n n) :: (Value.int IntKind.i64 (1 : Int)) :: c17 :: c18 :: c19 :: c20 :: c21 :: c22 :: c23 :: c24 :: c25 :: c26 :: c27 :: c28 :: c29 :: c30 :: c31 :: c32 :: c33 :: c34 :: c35 :: c36 :: c37 :: c38 :: c39 :: c40 :: c41 :: c42 :: c43 :: c44 :: c45 :: c46 :: c47 :: c48 :: c49 :: c50 :: c51 :: c52 :: c53 :: c54 :: c55 :: c56 :: c57 :: c58 :: c59 :: c60 :: c61 :: c62 :: c63 :: c64 :: c65 :: c66 :: c67 :: c68 :: c69 :: c70 :: c71 :: c72 :: c73 :: c74 :: c75 :: c76 :: c77 :: c78 :: c79 :: c80 :: c81 :: c82 :: c83 :: c84 :: c85 :: c86 :: c87 :: c88 :: c89 :: c90 :: c91 :: c92 :: c93 :: c94 :: c95 :: c96 :: c97 :: c98 :: c99 :: c100 :: c101 :: c102 :: c103 :: c104 :: c105 :: c106 :: c107 :: c108 :: c109 :: c110 :: c111 :: c112 :: c113 :: c114 :: c115 :: c116 :: c117 :: c118 :: c119 :: c120 :: c121 :: c122 :: c123 :: c124 :: c125 :: c126 :: c127 :: c128 :: c129 :: c130 :: c131 :: c132 :: c133 :: c134 :: c135 :: c136 :: c137 :: c138 :: c139 :: c140 :: c141 :: c142 :: c143 :: c144 :: c145 :: c146 :: c147 :: c148 :: c149 :: c150 :: c151 :: c152 :: c153 :: c154 :: c155 :: c156 :: c157 :: c158 :: c159 :: c160 :: c161 :: c162 :: c163 :: c164 :: c165 :: c166 :: c167 :: c168 :: c169 :: c170 :: c171 :: c172 :: c173 :: c174 :: c175 :: c176 :: c177 :: c178 :: c179 :: c180 :: c181 :: c182 :: c183 :: c184 :: c185 :: c186 :: c187 :: c188 :: c189 :: c190 :: c191 :: c192 :: c193 :: c194 :: c195 :: c196 :: c197 :: c198 :: c199 :: c200 :: c201 :: c202 :: c203 :: c204 :: c205 :: c206 :: c207 :: c208 :: c209 :: c210 :: c211 :: c212 :: c213 :: c214 :: c215 :: c216 :: c217 :: c218 :: c219 :: c220 :: c221 :: c222 :: c223 :: c224 :: c225 :: c226 :: c227 :: c228 :: c229 :: c230 :: c231 :: c232 :: c233 :: c234 :: c235 :: c236 :: c237 :: c238 :: c239 :: c240 :: c241 :: c242 :: c243 :: c244 :: c245 :: c246 :: c247 :: c248 :: c249 :: c250 :: c251 :: c252 :: c253 :: c254 :: c255 :: c256 :: c257 :: c258 :: c259 :: c260 :: c261 :: c262 :: c263 :: c264 :: c265 :: c266 :: c267 :: c268 :: c269 :: c270 :: c271 :: c272 :: c273 :: c274 :: c275 :: c276 :: c277 :: c278 :: c279 :: c280 :: c281 :: c282 :: c283 :: c284 :: c285 :: c286 :: c287 :: c288 :: c289 :: c290 :: c291 :: c292 :: c293 :: c294 :: c295 :: c296 :: c297 :: c298 :: c299 :: []), []⟩ w4 := by
  conv => arg 2; arg 1; whnf
  go_loopg [16] (n - 1) (fun g s wr => ∃ (k : Nat), g = n - k ∧ 1 ≤ k ∧ k ≤ n ∧ s = .int .i64 k ∧ Row wr vb 3 (nats (tab n (pre k (fun k => (d.P k).via) 0))) ∧ Row wr rb 3 (nats (tab n (pre k (fun k => (d.P k).prev) 0))) ∧ Row wr hb 3 (ints (tab n (pre k (PL.hF d.P) 0))) ∧ Kp B [] w0 wr)
  case atStart => exact ⟨1, rfl, by omega, by omega, rfl, h1, h2, h3, hK⟩
  case round =>
    clear h1 h2 h3 hK
    rename World => wa
    obtain ⟨k, rfl, hk1, hk, rfl, h1, h2, h3, hK⟩ := hrel
    by_cases hkn : k < n
    · have hPa := HP.out.kp (by rw [HB.out]; exact hK)
      have hc := path_any wa p n k d b hPa hkn hn
      have hlt := HF.out.lt k
      obtain ⟨⟨v, pr, ho⟩, hq⟩ : ∃ q, d.P k = q := ⟨_, rfl⟩
      rw [hq] at hc hlt
      have HQ : Hid (d.P k = ⟨v, pr, ho⟩) := hq
      have hla := h1.lt
      have hlb := h2.lt
      have hlc := h3.lt
      have H1 : Hid (Row wa vb 3 (nats (tab n (pre k (fun k => (d.P k).via) 0)))) := h1
      have H2 : Hid (Row wa rb 3 (nats (tab n (pre k (fun k => (d.P k).prev) 0)))) := h2
      have H3 : Hid (Row wa hb 3 (ints (tab n (pre k (PL.hF d.P) 0)))) := h3
      have hBw : B ≤ wa.heap.size := by omega
      obtain ⟨l1, l2, l3⟩ := hlt
      simp only [] at l1 l2 l3 hc
      clear hPa hq h1 h2 h3
      go_wp2_with fail
      refine hc.mono ?_
      rintro e w1 ⟨rfl, hk1'⟩
      clear hc
      have hK1 : Kp B [] w0 w1 := hK.trans (hk1'.mono hBw (by simp))
      have r1 := H1.out.kp hk1' hla (by simp)
      have r2 := H2.out.kp hk1' hlb (by simp)
      have r3 := H3.out.kp hk1' hlc (by simp)
      have x1 := r1.cell (i := k) (v := .int .i64 0) (nats_at (x := 0) (by rw [tab_at _ _ _ hkn, pre_self]))
      have y1 := r1.frozen k
      have x2 := r2.cell (i := k) (v := .int .i64 0) (nats_at (x := 0) (by rw [tab_at _ _ _ hkn, pre_self]))
      have y2 := r2.frozen k
      have x3 := r3.cell (i := k) (v := .int .i64 0) (ints_at (by rw [tab_at _ _ _ hkn, pre_self]))
      have y3 := r3.frozen k
      have z1 := (r1.set k (.int .i64 (v : Int))).setOther (c := rb) (o := k) hvr (.int .i64 (pr : Int))
      rw [nats_set, tab_pre' n k _ 0 v (by rw [HQ.out])] at z1
      have z2 := (r2.setOther (c := vb) (o := k) (Ne.symm hvr) (.int .i64 (v : Int))).set k (.int .i64 (pr : Int))
      rw [nats_set, tab_pre' n k _ 0 pr (by rw [HQ.out])] at z2
      have z3 := (r3.setOther (c := vb) (o := k) (Ne.symm hvh) (.int .i64 (v : Int))).setOther (c := rb) (o := k) (Ne.symm hrh) (.int .i64 (pr : Int))
      have zk := (hK1.setCell (b := vb) (o := k) (.inl hvb) (.int .i64 (v : Int))).setCell (b := rb) (o := k) (.inl hrb) (.int .i64 (pr : Int))
      have g1 : decide ((ho : Int) < 0) = false := by simp <;> omega
      have g2 : decide ((v : Int) < 0) = false := by simp <;> omega
      have g3 : decide ((pr : Int) < 0) = false := by simp <;> omega
      have g4 : decide ((n : Int) ≤ (v : Int)) = false := by simp <;> omega
      have g5 : decide ((n : Int) ≤ (pr : Int)) = false := by simp <;> omega
      have g6 : decide (n ≤ v) = false := by simp <;> omega
      have g7 : decide (n ≤ pr) = false := by simp <;> omega
      clear hk1' r1 r2 r3 hK1 H1 H2 H3 hla hlb hlc
      by_cases h0 : ho = 0
      · subst h0
        have HE : Hid (PL.hF d.P k = -1) := by show PL.hF d.P k = -1; unfold PL.hF; rw [if_neg (by omega), HQ.out]; rfl
        have z3' := (z3.set k (.int .i64 0)).set k (.int .i64 (-1))
        rw [List.set_set, tab_ints_pre n k _ (-1) HE.out.symm] at z3'
        have z1' := (z1.setOther (c := hb) (o := k) hvh (.int .i64 0)).setOther (c := hb) (o := k) hvh (.int .i64 (-1))
        have z2' := (z2.setOther (c := hb) (o := k) hrh (.int .i64 0)).setOther (c := hb) (o := k) hrh (.int .i64 (-1))
        have zk' := (zk.setCell (b := hb) (o := k) (.inl hhb) (.int .i64 0)).setCell (b := hb) (o := k) (.inl hhb) (.int .i64 (-1))
        have HZ : Hid _ := And.intro z1' (And.intro z2' (And.intro z3' zk'))
        clear z1 z2 z3 zk z1' z2' z3' zk'
        go_wp2
        go_roundg (n - (k + 1))
        case measure => omega
        case rel => exact ⟨k + 1, rfl, by omega, by omega, by go_num, HZ.out⟩
      · have hp : 0 < ho := by omega
        have g8 : decide ((0 : Int) < (ho : Int)) = true := by simp <;> omega
        have g9 : decide (0 < ho) = true := by simp <;> omega
        have g10 : ((ho : Int) == 0) = false := by rw [beq_eq_false_iff_ne]; omega
        have HE : Hid (PL.hF d.P k = (ho : Int)) := by show PL.hF d.P k = (ho : Int); unfold PL.hF; rw [if_neg (by omega), HQ.out, if_neg (by show ¬ ho = 0; omega)]
        have z3' := z3.set k (.int .i64 (ho : Int))
        rw [tab_ints_pre n k _ (ho : Int) HE.out.symm] at z3'
        have z1' := z1.setOther (c := hb) (o := k) hvh (.int .i64 (ho : Int))
        have z2' := z2.setOther (c := hb) (o := k) hrh (.int .i64 (ho : Int))
        have zk' := zk.setCell (b := hb) (o := k) (.inl hhb) (.int .i64 (ho : Int))
        have HZ : Hid _ := And.intro z1' (And.intro z2' (And.intro z3' zk'))
        clear z1 z2 z3 zk z1' z2' z3' zk' h0
        go_wp2
        go_roundg (n - (k + 1))
        case measure => omega
        case rel => exact ⟨k + 1, rfl, by omega, by omega, by go_num, HZ.out⟩
    · have e : n = k := by omega
      subst e
      rw [tab_full] at h1 h2 h3
      have HP1 : Hid _ := And.intro h1 (And.intro h2 (And.intro h3 hK))
      clear h1 h2 h3 hK
      go_wp2
      apply HX.out
      exact HP1.out
set_option maxHeartbeats 20000000 in
set_option maxRecDepth 1000000 in
theorem law3_loop2 {c0 c1 c2 c3 c4 c5 c6 c7 c8 c10 c11 c16 c17 c18 c19 c21 c22 c23 c24 c25 c26 c27 c28 c29 c30 c31 c32 c33 c34 c35 c36 c37 c38 c39 c40 c41 c42 c43 c44 c45 c46 c47 c48 c49 c50 c51 c52 c53 c54 c55 c56 c57 c58 c59 c60 c61 c62 c63 c64 c65 c66 c67 c68 c69 c70 c71 c72 c73 c74 c75 c76 c77 c78 c79 c80 c81 c82 c83 c84 c85 c86 c87 c88 c89 c90 c91 c92 c93 c94 c95 c96 c97 c98 c99 c100 c101 c102 c103 c104 c105 c106 c107 c108 c109 c110 c111 c112 c113 c114 c115 c116 c117 c118 c119 c120 c121 c122 c123 c124 c125 c126 c127 c128 c129 c130 c131 c132 c133 c134 c135 c136 c137 c138 c139 c140 c141 c142 c143 c144 c145 c146 c147 c148 c149 c150 c151 c152 c153 c154 c155 c156 c157 c158 c159 c160 c161 c162 c163 c164 c165 c166 c167 c168 c169 c170 c171 c172 c173 c174 c175 c176 c177 c178 c179 c180 c181 c182 c183 c184 c185 c186 c187 c188 c189 c190 c191 c192 c193 c194 c195 c196 c197 c198 c199 c200 c201 c202 c203 c204 c205 c206 c207 c208 c209 c210 c211 c212 c213 c214 c215 c216 c217 c218 c219 c220 c221 c222 c223 c224 c225 c226 c227 c228 c229 c230 c231 c232 c233 c234 c235 c236 c237 c238 c239 c240 c241 c242 c243 c244 c245 c246 c247 c248 c249 c250 c251 c252 c253 c254 c255 c256 c257 c258 c259 c260 c261 c262 c263 c264 c265 c266 c267 c268 c269 c270 c271 c272 c273 c274 c275 c276 c277 c278 c279 c280 c281 c282 c283 c284 c285 c286 c287 c288 c289 c290 c291 c292 c293 c294 c295 c296 c297 c298 c299 : Value} {K : Act → World → Prop} {R : Ending → World → Prop} (w5 : World) (n q vb rb hb mp hc : Nat) (names : List ByteArray) (m : PL.PM) (mb : MB) (P : Nat → PT) (HM : Hid (PL.PMesh names n m)) (HA : Hid (MeshAt w5 n mb m)) (HF : Hid (PL.BFin n (fun k => PL.tg m.J k) (PL.rkf m) P))
    (hms : Row w5 mp 32 [.int .i64 (n : Int), .slice (some ⟨mb.rb, 0, none⟩) n n, .slice (some ⟨mb.tb, 0, none⟩) n n, .map (some mb.cb), .slice (some ⟨mb.jb, 0, none⟩) n n, .slice (some ⟨mb.lb, 0, none⟩) n n, .slice (some ⟨mb.hb, 0, none⟩) n n, .int .i64 (hc : Int)])
    (h1 : Row w5 vb 3 (nats (tab n (fun k => (P k).via)))) (h2 : Row w5 rb 3 (nats (tab n (fun k => (P k).prev)))) (h3 : Row w5 hb 3 (ints (tab n (PL.hF P))))
    (HX : Hid (∀ (u8 u20 u21 u22 u23 u24 u25 u26 u27 u28 u29 u30 u31 u32 u33 u34 u35 u36 u37 u38 u39 u40 u41 u42 u43 u44 u45 u46 u47 u48 u49 u50 u51 u52 u53 u54 u55 u56 u57 u58 u59 u60 u61 u62 u63 u64 u65 u66 u67 u68 u69 u70 u71 u72 u73 u74 u75 u76 u77 u78 u79 u80 u81 u82 u83 u84 u85 u86 u87 u88 u89 u90 u91 u92 u93 u94 u95 u96 u97 u98 u99 u100 u101 u102 u103 u104 u105 u106 u107 u108 u109 u110 u111 u112 u113 u114 u115 u116 u117 u118 u119 u120 u121 u122 u123 u124 u125 u126 u127 u128 u129 u130 u131 u132 u133 u134 u135 u136 u137 u138 u139 u140 u141 u142 u143 u144 u145 u146 u147 u148 u149 u150 u151 u152 u153 u154 u155 u156 u157 u158 u159 u160 u161 u162 u163 u164 u165 u166 u167 u168 u169 u170 u171 u172 u173 u174 u175 u176 u177 u178 u179 u180 u181 u182 u183 u184 u185 u186 u187 u188 u189 u190 u191 u192 u193 u194 u195 u196 u197 u198 u199 u200 u201 u202 u203 u204 u205 u206 u207 u208 u209 u210 u211 u212 u213 u214 u215 u216 u217 u218 u219 u220 u221 u222 u223 u224 u225 u226 u227 u228 u229 u230 u231 u232 u233 u234 u235 u236 u237 u238 u239 u240 u241 u242 u243 u244 u245 u246 u247 u248 u249 u250 u251 u252 u253 u254 u255 u256 u257 u258 u259 u260 u261 u262 u263 u264 u265 u266 u267 u268 u269 u270 u271 u272 u273 u274 u275 u276 u277 u278 u279 u280 u281 u282 u283 u284 u285 u286 u287 u288 u289 u290 u291 u292 u293 u294 u295 u296 u297 u298 u299 : Value) (w' : World), (∃ q', w' = w5.drewN q') → K ⟨List.toArray (c0 :: c1 :: c2 :: c3 :: c4 :: c5 :: c6 :: c7 :: u8 :: (Value.pointer (some ⟨mp, 0, none⟩)) :: c10 :: c11 :: (Value.int IntKind.i64 (n : Int)) :: (Value.slice (some ⟨vb, 0, none⟩) n n) :: (Value.slice (some ⟨rb, 0, none⟩) n n) :: (Value.slice (some ⟨hb, 0, none⟩) n n) :: c16 :: c17 :: c18 :: c19 :: u20 :: u21 :: u22 :: u23 :: u24 :: u25 :: u26 :: u27 :: u28 :: u29 :: u30 :: u31 :: u32 :: u33 :: u34 :: u35 :: u36 :: u37 :: u38 :: u39 :: u40 :: u41 :: u42 :: u43 :: u44 :: u45 :: u46 :: u47 :: u48 :: u49 :: u50 :: u51 :: u52 :: u53 :: u54 :: u55 :: u56 :: u57 :: u58 :: u59 :: u60 :: u61 :: u62 :: u63 :: u64 :: u65 :: u66 :: u67 :: u68 :: u69 :: u70 :: u71 :: u72 :: u73 :: u74 :: u75 :: u76 :: u77 :: u78 :: u79 :: u80 :: u81 :: u82 :: u83 :: u84 :: u85 :: u86 :: u87 :: u88 :: u89 :: u90 :: u91 :: u92 :: u93 :: u94 :: u95 :: u96 :: u97 :: u98 :: u99 :: u100 :: u101 :: u102 :: u103 :: u104 :: u105 :: u106 :: u107 :: u108 :: u109 :: u110 :: u111 :: u112 :: u113 :: u114 :: u115 :: u116 :: u117 :: u118 :: u119 :: u120 :: u121 :: u122 :: u123 :: u124 :: u125 :: u126 :: u127 :: u128 :: u129 :: u130 :: u131 :: u132 :: u133 :: u134 :: u135 :: u136 :: u137 :: u138 :: u139 :: u140 :: u141 :: u142 :: u143 :: u144 :: u145 :: u146 :: u147 :: u148 :: u149 :: u150 :: u151 :: u152 :: u153 :: u154 :: u155 :: u156 :: u157 :: u158 :: u159 :: u160 :: u161 :: u162 :: u163 :: u164 :: u165 :: u166 :: u167 :: u168 :: u169 :: u170 :: u171 :: u172 :: u173 :: u174 :: u175 :: u176 :: u177 :: u178 :: u179 :: u180 :: u181 :: u182 :: u183 :: u184 :: u185 :: u186 :: u187 :: u188 :: u189 :: u190 :: u191 :: u192 :: u193 :: u194 :: u195 :: u196 :: u197 :: u198 :: u199 :: u200 :: u201 :: u202 :: u203 :: u204 :: u205 :: u206 :: u207 :: u208 :: u209 :: u210 :: u211 :: u212 :: u213 :: u214 :: u215 :: u216 :: u217 :: u218 :: u219 :: u220 :: u221 :: u222 :: u223 :: u224 :: u225 :: u226 :: u227 :: u228 :: u229 :: u230 :: u231 :: u232 :: u233 :: u234 :: u235 :: u236 :: u237 :: u238 :: u239 :: u240 :: u241 :: u242 :: u243 :: u244 :: u245 :: u246 :: u247 :: u248 :: u249 :: u250 :: u251 :: u252 :: u253 :: u254 :: u255 :: u256 :: u257 :: u258 :: u259 :: u260 :: u261 :: u262 :: u263 :: u264 :: u265 :: u266 :: u267 :: u268 :: u269 :: u270 :: u271 :: u272 :: u273 :: u274 :: u275 :: u276 :: u277 :: u278 :: u279 :: u280 :: u281 :: u282 :: u283 :: u284 :: u285 :: u286 :: u287 :: u288 :: u289 :: u290 :: u291 :: u292 :: u293 :: u294 :: u295 :: u296 :: u297 :: u298 :: u299 :: []), []⟩ w')) :
    Code.wp Try.prog (Code.loop (loopNo 1 Try.f3)) (Exit.inBlock 2 (Exit.then K (bodyPost Try.prog Try.f3 R))) ⟨List.toArray (c0 :: c1 :: c2 :: c3 :: c4 :: c5 :: c6 :: c7 :: c8 :: (Value.pointer (some ⟨mp, 0, none⟩)) :: c10 :: c11 :: (Value.int IntKind.i64 (n : Int)) :: (Value.slice (some ⟨vb, 0, none⟩) n n) :: (Value.slice (some ⟨rb, 0, none⟩) n n) :: (Value.slice (some ⟨hb, 0, none⟩) n n) :: c16 :: c17 :: c18 :: c19 :: (Value.int IntKind.i64 (1 : Int)) :: c21 :: c22 :: c23 :: c24 :: c25 :: c26 :: c27 :: c28 :: c29 :: c30 :: c31 :: c32 :: c33 :: c34 :: c35 :: c36 :: c37 :: c38 :: c39 :: c40 :: c41 :: c42 :: c43 :: c44 :: c45 :: c46 :: c47 :: c48 :: c49 :: c50 :: c51 :: c52 :: c53 :: c54 :: c55 :: c56 :: c57 :: c58 :: c59 :: c60 :: c61 :: c62 :: c63 :: c64 :: c65 :: c66 :: c67 :: c68 :: c69 :: c70 :: c71 :: c72 :: c73 :: c74 :: c75 :: c76 :: c77 :: c78 :: c79 :: c80 :: c81 :: c82 :: c83 :: c84 :: c85 :: c86 :: c87 :: c88 :: c89 :: c90 :: c91 :: c92 :: c93 :: c94 :: c95 :: c96 :: c97 :: c98 :: c99 :: c100 :: c101 :: c102 :: c103 :: c104 :: c105 :: c106 :: c107 :: c108 :: c109 :: c110 :: c111 :: c112 :: c113 :: c114 :: c115 :: c116 :: c117 :: c118 :: c119 :: c120 :: c121 :: c122 :: c123 :: c124 :: c125 :: c126 :: c127 :: c128 :: c129 :: c130 :: c131 :: c132 :: c133 :: c134 :: c135 :: c136 :: c137 :: c138 :: c139 :: c140 :: c141 :: c142 :: c143 :: c144 :: c145 :: c146 :: c147 :: c148 :: c149 :: c150 :: c151 :: c152 :: c153 :: c154 :: c155 :: c156 :: c157 :: c158 :: c159 :: c160 :: c161 :: c162 :: c163 :: c164 :: c165 :: c166 :: c167 :: c168 :: c169 :: c170 :: c171 :: c172 :: c173 :: c174 :: c175 :: c176 :: c177 :: c178 :: c179 :: c180 :: c181 :: c182 :: c183 :: c184 :: c185 :: c186 :: c187 :: c188 :: c189 :: c190 :: c191 :: c192 :: c193 :: c194 :: c195 :: c196 :: c197 :: c198 :: c199 :: c200 :: c201 :: c202 :: c203 :: c204 :: c205 :: c206 :: c207 :: c208 :: c209 :: c210 :: c211 :: c212 :: c213 :: c214 :: c215 :: c216 :: c217 :: c218 :: c219 :: c220 :: c221 :: c222 :: c223 :: c224 :: c225 :: c226 :: c227 :: c228 :: c229 :: c230 :: c231 :: c232 :: c233 :: c234 :: c235 :: c236 :: c237 :: c238 :: c239 :: c240 :: c241 :: c242 :: c243 :: c244 :: c245 :: c246 :: c247 :: c248 :: c249 :: c250 :: c251 :: c252 :: c253 :: c254 :: c255 :: c256 :: c257 :: c258 :: c259 :: c260 :: c261 :: c262 :: c263 :: c264 :: c265 :: c266 :: c267 :: c268 :: c269 :: c270 :: c271 :: c272 :: c273 :: c274 :: c275 :: c276 :: c277 :: c278 :: c279 :: c280 :: c281 :: c282 :: c283 :: c284 :: c285 :: c286 :: c287 :: c288 :: c289 :: c290 :: c291 :: c292 :: c293 :: c294 :: c295 :: c296 :: c297 :: c298 :: c299 :: []), []⟩ (w5.drewN q) := by
  conv => arg 2; arg 1; whnf
  have hn0 := HM.out.n0
  have hn := HM.out.n1
  have HS : Hid (Row w5 mp 32 [.int .i64 (n : Int), .slice (some ⟨mb.rb, 0, none⟩) n n, .slice (some ⟨mb.tb, 0, none⟩) n n, .map (some mb.cb), .slice (some ⟨mb.jb, 0, none⟩) n n, .slice (some ⟨mb.lb, 0, none⟩) n n, .slice (some ⟨mb.hb, 0, none⟩) n n, .int .i64 (hc : Int)]) := hms
  have H1 : Hid (Row w5 vb 3 (nats (tab n (fun k => (P k).via)))) := h1
  have H2 : Hid (Row w5 rb 3 (nats (tab n (fun k => (P k).prev)))) := h2
  have H3 : Hid (Row w5 hb 3 (ints (tab n (PL.hF P)))) := h3
  clear hms h1 h2 h3
  go_loopg [20] (n - 1) (fun g s wr => ∃ (k q' : Nat), g = n - k ∧ 1 ≤ k ∧ k ≤ n ∧ s = .int .i64 k ∧ wr = w5.drewN q')
  case atStart => exact ⟨1, q, rfl, by omega, by omega, rfl, rfl⟩
  case round =>
    rename World => wa
    obtain ⟨k, q', rfl, hk1, hk, rfl, hwr⟩ := hrel
    have HWR : Hid (wa = w5.drewN q') := hwr
    have hA : MeshAt wa n mb m := by rw [hwr]; exact HA.out.kp ((Kp.refl _ _ _).drewN q')
    have hs := HS.out.drewN q'
    have r1 := H1.out.drewN q'
    have r2 := H2.out.drewN q'
    have r3 := H3.out.drewN q'
    rw [← hwr] at hs r1 r2 r3
    clear hwr
    by_cases hkn : k < n
    · have x1 := r1.cell (nats_at (tab_at n k _ hkn))
      have x2 := r2.cell (nats_at (tab_at n k _ hkn))
      have x3 := r3.cell (ints_at (tab_at n k _ hkn))
      obtain ⟨⟨v, pr, ho⟩, hq⟩ : ∃ q, P k = q := ⟨_, rfl⟩
      rw [hq] at x1 x2
      simp only [] at x1 x2
      have HQ : Hid (P k = ⟨v, pr, ho⟩) := hq
      clear hq
      by_cases h0 : ho = 0
      · have e : PL.hF P k = -1 := by unfold PL.hF; rw [if_neg (by omega), HQ.out, if_pos h0]
        rw [e] at x3
        clear e hA hs r1 r2 r3
        go_wp2
        go_roundg (n - (k + 1))
        case measure => omega
        case rel => exact ⟨k + 1, q', rfl, by omega, by omega, by go_num, HWR.out⟩
      · have e : PL.hF P k = (ho : Int) := by unfold PL.hF; rw [if_neg (by omega), HQ.out, if_neg h0]
        rw [e] at x3
        have hlt := HF.out.lt k
        have hpar := HF.out.par k (by omega) (by rw [HQ.out]; show 0 < ho; omega)
        rw [HQ.out] at hlt hpar
        obtain ⟨l1, l2, l3⟩ := hlt
        obtain ⟨hp1, hp2⟩ := hpar
        simp only [] at l1 l2 l3 hp1 hp2
        obtain ⟨hc1, hc2⟩ := (PL.jmem HM.out pr k).1 hp1
        have k1 := hA.tg.look (p := (pr, k)) (by show pr ≤ _; omega) (by show k ≤ _; omega)
        have k2 := hA.tg.look (p := (k, pr)) (by show k ≤ _; omega) (by show pr ≤ _; omega)
        unfold kP at k1 k2
        generalize m.S.ct (pr, k) = c1 at *
        generalize m.S.ct (k, pr) = c2 at *
        have s3 := hs.cell (i := 3) rfl
        have g0 : decide ((ho : Int) < 0) = false := by simp <;> omega
        have g1 : ((pr : Int) == (k : Int)) = false := by rw [beq_eq_false_iff_ne]; omega
        have g2 : ((c1 : Int) == 0) = false := by rw [beq_eq_false_iff_ne]; omega
        have g3 : ((c2 : Int) == 0) = false := by rw [beq_eq_false_iff_ne]; omega
        by_cases h1 : ho = 1
        · have hone := HF.out.one k (by omega) (by rw [HQ.out]; exact h1)
          rw [HQ.out] at hone
          obtain ⟨e1, e2⟩ := hone
          simp only [] at e1 e2
          have g4 : ((ho : Int) == 1) = true := by rw [beq_iff_eq]; omega
          have g5 : ((pr : Int) != 0) = false := by rw [bne_eq_false_iff_eq]; omega
          have g6 : ((v : Int) != (k : Int)) = false := by rw [bne_eq_false_iff_eq]; omega
          clear hA hs r1 r2 r3 e hp1 HQ e1 e2 h1 h0
          go_wp2
          go_roundg (n - (k + 1))
          case measure => omega
          case rel => exact ⟨k + 1, q', rfl, by omega, by omega, by go_num, HWR.out⟩
        · have hmore := HF.out.more k (by omega) (by rw [HQ.out]; show 1 < ho; omega)
          rw [HQ.out] at hmore
          obtain ⟨e1, e2, e3⟩ := hmore
          simp only [] at e1 e2 e3
          have y3 := r3.cell (ints_at (tab_at n pr _ l2))
          have y1 := r1.cell (nats_at (tab_at n pr _ l2))
          rw [e3] at y1
          have e4 : PL.hF P pr = (ho : Int) - 1 := by unfold PL.hF; rw [if_neg e1, if_neg (by omega)]; omega
          rw [e4] at y3
          have g4 : ((ho : Int) == 1) = false := by rw [beq_eq_false_iff_ne]; omega
          have g5 : ((pr : Int) == 0) = false := by rw [beq_eq_false_iff_ne]; omega
          have s4 := hs.cell (i := 4) rfl
          obtain ⟨jv, hjv⟩ : ∃ jv, mb.JV[k]? = some jv := ⟨_, List.getElem?_eq_getElem (by rw [hA.jn.len]; exact hkn)⟩
          have hown := hA.jn.own k jv hkn hjv
          obtain ⟨jo, jc, rfl, hjc⟩ := owns_form hown
          have j1 := hA.jn.row.cell hjv
          have hjl := PL.jlen HM.out k hkn
          obtain ⟨jl, hjle⟩ : ∃ jl, (PL.tg m.J k).length = jl := ⟨_, rfl⟩
          rw [hjle] at hjl j1 hjc
          have HJL : Hid ((PL.tg m.J k).length = jl) := hjle
          have HJC : Hid (0 < jl → ∃ g, jo = some ⟨g, 0, none⟩ ∧ ∀ (j : Nat) (u : Value), (nats (PL.tg m.J k))[j]? = some u → wa.cell? ⟨g, j, none⟩ = some u) := fun h => by
            obtain ⟨g, h1, _, _, h2⟩ := hjc h
            exact ⟨g, h1, h2⟩
          clear hown hjv hjle hjc hA hs r1 r2 r3 e e2 e3 e4 hp1
          go_upto_region 42 with fail
          go_quiet (fail)
          go_wp2_with fail
          have HL : Hid (∀ j, j ∈ PL.tg m.J k → (P j).hops + 1 = ho → PL.rkf m v ≤ PL.rkf m (P j).via) := by
            intro j hj he
            have := HF.out.least k (by omega) (by rw [HQ.out]; show 1 < ho; omega) j hj
            rw [HQ.out] at this
            exact this he
          have HJC2 : Hid (0 < jl → ∃ g, jo = some ⟨g, 0, none⟩ ∧ ∀ (j : Nat) (u : Value), (nats (PL.tg m.J k))[j]? = some u → w5.cell? ⟨g, j, none⟩ = some u) := fun h => by
            obtain ⟨g, h1, h2⟩ := HJC.out h
            refine ⟨g, h1, fun j u hu => ?_⟩
            have := h2 j u hu
            rw [HWR.out] at this
            exact this
          obtain ⟨rv, hrv, _, hrv2⟩ := PL.rank_lt HM.out v l1
          have HRV : Hid (m.rk[v]? = some rv ∧ PL.rkf m v = rv) := ⟨hrv, hrv2⟩
          clear hrv hrv2
          go_loopg [231] jl (fun g s wi => ∃ (t q2 : Nat), g = jl - t ∧ t ≤ jl ∧ s = .int .i64 t ∧ wi = w5.drewN q2)
          case atStart => exact ⟨0, q' + nq, rfl, by omega, rfl, by rw [HWR.out]; simp [World.drewN, Nat.add_assoc]⟩
          case round =>
            clear x1 x2 x3 y1 y3 s3 s4 k1 k2 j1 g0 g1 g2 g3 g4 g5
            rename World => wi
            obtain ⟨t, q2, rfl, ht, rfl, hwi⟩ := hrel
            have HWI : Hid (wi = w5.drewN q2) := hwi
            by_cases htt : t < jl
            · obtain ⟨gj, rfl, hgj⟩ := HJC2.out (by omega)
              obtain ⟨x, hx⟩ : ∃ x, (PL.tg m.J k)[t]? = some x := ⟨_, List.getElem?_eq_getElem (by rw [HJL.out]; exact htt)⟩
              have xm := List.mem_of_getElem? hx
              have xc : wi.cell? ⟨gj, t, none⟩ = some (.int .i64 (x : Int)) := by rw [hwi]; exact hgj t _ (nats_at hx)
              have hxn : x < n := ((PL.gr_of HM.out).rng k x xm).1
              have hs := HS.out.drewN q2
              have r1 := H1.out.drewN q2
              have r3 := H3.out.drewN q2
              have hrk := HA.out.rank.drewN q2
              rw [← hwi] at hs r1 r3 hrk
              have s1 := hs.cell (i := 1) rfl
              have x3 := r3.cell (ints_at (tab_at n x _ hxn))
              have y3 := r3.cell (ints_at (tab_at n k _ hkn))
              have x1 := r1.cell (nats_at (tab_at n x _ hxn))
              have e : PL.hF P k = (ho : Int) := by unfold PL.hF; rw [if_neg (by omega), HQ.out, if_neg h0]
              rw [e] at y3
              have hvl := (HF.out.lt x).1
              obtain ⟨rx, hrx, _, hrx2⟩ := PL.rank_lt HM.out (P x).via hvl
              have z1 := hrk.cell (nats_at hrx)
              have z2 := hrk.cell (nats_at HRV.out.1)
              obtain ⟨hx3, hx3e⟩ : ∃ hx3, PL.hF P x = hx3 := ⟨_, rfl⟩
              have hbnd : -1 ≤ hx3 ∧ hx3 ≤ 65536 := by
                have := (HF.out.lt x).2.2
                rw [← hx3e]; unfold PL.hF
                split
                · omega
                · split <;> omega
              obtain ⟨hb1, hb2⟩ := hbnd
              have hnot : (hx3 == (ho : Int) - 1) = true → decide ((rx : Int) < (rv : Int)) = false := by
                intro hh
                rw [beq_iff_eq] at hh
                have hx0 : x ≠ 0 := by
                  intro e0
                  subst e0
                  rw [PL.hF_zero] at hx3e
                  omega
                have hhx : (P x).hops + 1 = ho := by
                  unfold PL.hF at hx3e
                  rw [if_neg hx0] at hx3e
                  by_cases h00 : (P x).hops = 0
                  · rw [if_pos h00] at hx3e; omega
                  · rw [if_neg h00] at hx3e; omega
                have := HL.out x xm hhx
                rw [hrx2, HRV.out.2] at this
                simp <;> omega
              rw [hx3e] at x3
              generalize (P x).via = vx at *
              clear hs r1 r3 hrk hx xm hgj e hrx hrx2 hx3e hwi
              have hcase : (hx3 == (ho : Int) - 1) = false ∨ ((hx3 == (ho : Int) - 1) = true ∧ decide ((rx : Int) < (rv : Int)) = false ∧ decide (rx < rv) = false) := by
                cases hb : (hx3 == (ho : Int) - 1)
                · exact .inl rfl
                · right
                  have := hnot hb
                  refine ⟨rfl, this, ?_⟩
                  simp at this ⊢
                  omega
              clear hnot
              rcases hcase with g1 | ⟨g1, g2, g3⟩
              · go_upto_region 47 with fail
                go_quiet (fail)
                go_wp2
                go_roundg (jl - (t + 1))
                case measure => omega
                case rel => exact ⟨t + 1, q2 + nq, rfl, by omega, by go_num, by rw [HWI.out]; simp [World.drewN, Nat.add_assoc]⟩
              · go_upto_region 47 with fail
                go_quiet (fail)
                go_wp2
                go_roundg (jl - (t + 1))
                case measure => omega
                case rel => exact ⟨t + 1, q2 + nq, rfl, by omega, by go_num, by rw [HWI.out]; simp [World.drewN, Nat.add_assoc]⟩
            · clear hwi
              go_wp2
              go_roundg (n - (k + 1))
              case measure => omega
              case rel => exact ⟨k + 1, q2, rfl, by omega, by omega, by go_num, HWI.out⟩
    · have e : n = k := by omega
      subst e
      clear hA hs r1 r2 r3
      go_wp2
      apply HX.out
      exact ⟨q', HWR.out⟩
set_option maxHeartbeats 20000000 in
set_option maxRecDepth 1000000 in
theorem law3_loop4 {c0 c1 c2 c3 c4 c5 c6 c7 c8 c10 c11 c13 c14 c16 c17 c18 c19 c20 c21 c22 c23 c24 c26 c27 c28 c29 c30 c31 c32 c33 c34 c35 c36 c37 c38 c39 c40 c41 c42 c43 c44 c45 c46 c47 c48 c49 c50 c51 c52 c53 c54 c55 c56 c57 c58 c59 c60 c61 c62 c63 c64 c65 c66 c67 c68 c69 c70 c71 c72 c73 c74 c75 c76 c77 c78 c79 c80 c81 c82 c83 c84 c85 c86 c87 c88 c89 c90 c91 c92 c93 c94 c95 c96 c97 c98 c99 c100 c101 c102 c103 c104 c105 c106 c107 c108 c109 c110 c111 c112 c113 c114 c115 c116 c117 c118 c119 c120 c121 c122 c123 c124 c125 c126 c127 c128 c129 c130 c131 c132 c133 c134 c135 c136 c137 c138 c139 c140 c141 c142 c143 c144 c145 c146 c147 c148 c149 c150 c151 c152 c153 c154 c155 c156 c157 c158 c159 c160 c161 c162 c163 c164 c165 c166 c167 c168 c169 c170 c171 c172 c173 c174 c175 c176 c177 c178 c179 c180 c181 c182 c183 c184 c185 c186 c187 c188 c189 c190 c191 c192 c193 c194 c195 c196 c197 c198 c199 c200 c201 c202 c203 c204 c205 c206 c207 c208 c209 c210 c211 c212 c213 c214 c215 c216 c217 c218 c219 c220 c221 c222 c223 c224 c225 c226 c227 c228 c229 c230 c231 c232 c233 c234 c235 c236 c237 c238 c239 c240 c241 c242 c243 c244 c245 c246 c247 c248 c249 c250 c251 c252 c253 c254 c255 c256 c257 c258 c259 c260 c261 c262 c263 c264 c265 c266 c267 c268 c269 c270 c271 c272 c273 c274 c275 c276 c277 c278 c279 c280 c281 c282 c283 c284 c285 c286 c287 c288 c289 c290 c291 c292 c293 c294 c295 c296 c297 c298 c299 : Value} {K : Act → World → Prop} {R : Ending → World → Prop} (w5 : World) (n q hb mp hc : Nat) (names : List ByteArray) (m : PL.PM) (mb : MB) (P : Nat → PT) (HM : Hid (PL.PMesh names n m)) (HA : Hid (MeshAt w5 n mb m)) (HF : Hid (PL.BFin n (fun k => PL.tg m.J k) (PL.rkf m) P))
    (hms : Row w5 mp 32 [.int .i64 (n : Int), .slice (some ⟨mb.rb, 0, none⟩) n n, .slice (some ⟨mb.tb, 0, none⟩) n n, .map (some mb.cb), .slice (some ⟨mb.jb, 0, none⟩) n n, .slice (some ⟨mb.lb, 0, none⟩) n n, .slice (some ⟨mb.hb, 0, none⟩) n n, .int .i64 (hc : Int)])
    (h3 : Row w5 hb 3 (ints (tab n (PL.hF P))))
    (HX : Hid (∀ (u8 u25 u26 u27 u28 u29 u30 u31 u32 u33 u34 u35 u36 u37 u38 u39 u40 u41 u42 u43 u44 u45 u46 u47 u48 u49 u50 u51 u52 u53 u54 u55 u56 u57 u58 u59 u60 u61 u62 u63 u64 u65 u66 u67 u68 u69 u70 u71 u72 u73 u74 u75 u76 u77 u78 u79 u80 u81 u82 u83 u84 u85 u86 u87 u88 u89 u90 u91 u92 u93 u94 u95 u96 u97 u98 u99 u100 u101 u102 u103 u104 u105 u106 u107 u108 u109 u110 u111 u112 u113 u114 u115 u116 u117 u118 u119 u120 u121 u122 u123 u124 u125 u126 u127 u128 u129 u130 u131 u132 u133 u134 u135 u136 u137 u138 u139 u140 u141 u142 u143 u144 u145 u146 u147 u148 u149 u150 u151 u152 u153 u154 u155 u156 u157 u158 u159 u160 u161 u162 u163 u164 u165 u166 u167 u168 u169 u170 u171 u172 u173 u174 u175 u176 u177 u178 u179 u180 u181 u182 u183 u184 u185 u186 u187 u188 u189 u190 u191 u192 u193 u194 u195 u196 u197 u198 u199 u200 u201 u202 u203 u204 u205 u206 u207 u208 u209 u210 u211 u212 u213 u214 u215 u216 u217 u218 u219 u220 u221 u222 u223 u224 u225 u226 u227 u228 u229 u230 u231 u232 u233 u234 u235 u236 u237 u238 u239 u240 u241 u242 u243 u244 u245 u246 u247 u248 u249 u250 u251 u252 u253 u254 u255 u256 u257 u258 u259 u260 u261 u262 u263 u264 u265 u266 u267 u268 u269 u270 u271 u272 u273 u274 u275 u276 u277 u278 u279 u280 u281 u282 u283 u284 u285 u286 u287 u288 u289 u290 u291 u292 u293 u294 u295 u296 u297 u298 u299 : Value) (w' : World), (∃ q', w' = w5.drewN q') → K ⟨List.toArray (c0 :: c1 :: c2 :: c3 :: c4 :: c5 :: c6 :: c7 :: u8 :: (Value.pointer (some ⟨mp, 0, none⟩)) :: c10 :: c11 :: (Value.int IntKind.i64 (n : Int)) :: c13 :: c14 :: (Value.slice (some ⟨hb, 0, none⟩) n n) :: c16 :: c17 :: c18 :: c19 :: c20 :: c21 :: c22 :: c23 :: c24 :: u25 :: u26 :: u27 :: u28 :: u29 :: u30 :: u31 :: u32 :: u33 :: u34 :: u35 :: u36 :: u37 :: u38 :: u39 :: u40 :: u41 :: u42 :: u43 :: u44 :: u45 :: u46 :: u47 :: u48 :: u49 :: u50 :: u51 :: u52 :: u53 :: u54 :: u55 :: u56 :: u57 :: u58 :: u59 :: u60 :: u61 :: u62 :: u63 :: u64 :: u65 :: u66 :: u67 :: u68 :: u69 :: u70 :: u71 :: u72 :: u73 :: u74 :: u75 :: u76 :: u77 :: u78 :: u79 :: u80 :: u81 :: u82 :: u83 :: u84 :: u85 :: u86 :: u87 :: u88 :: u89 :: u90 :: u91 :: u92 :: u93 :: u94 :: u95 :: u96 :: u97 :: u98 :: u99 :: u100 :: u101 :: u102 :: u103 :: u104 :: u105 :: u106 :: u107 :: u108 :: u109 :: u110 :: u111 :: u112 :: u113 :: u114 :: u115 :: u116 :: u117 :: u118 :: u119 :: u120 :: u121 :: u122 :: u123 :: u124 :: u125 :: u126 :: u127 :: u128 :: u129 :: u130 :: u131 :: u132 :: u133 :: u134 :: u135 :: u136 :: u137 :: u138 :: u139 :: u140 :: u141 :: u142 :: u143 :: u144 :: u145 :: u146 :: u147 :: u148 :: u149 :: u150 :: u151 :: u152 :: u153 :: u154 :: u155 :: u156 :: u157 :: u158 :: u159 :: u160 :: u161 :: u162 :: u163 :: u164 :: u165 :: u166 :: u167 :: u168 :: u169 :: u170 :: u171 :: u172 :: u173 :: u174 :: u175 :: u176 :: u177 :: u178 :: u179 :: u180 :: u181 :: u182 :: u183 :: u184 :: u185 :: u186 :: u187 :: u188 :: u189 :: u190 :: u191 :: u192 :: u193 :: u194 :: u195 :: u196 :: u197 :: u198 :: u199 :: u200 :: u201 :: u202 :: u203 :: u204 :: u205 :: u206 :: u207 :: u208 :: u209 :: u210 :: u211 :: u212 :: u213 :: u214 :: u215 :: u216 :: u217 :: u218 :: u219 :: u220 :: u221 :: u222 :: u223 :: u224 :: u225 :: u226 :: u227 :: u228 :: u229 :: u230 :: u231 :: u232 :: u233 :: u234 :: u235 :: u236 :: u237 :: u238 :: u239 :: u240 :: u241 :: u242 :: u243 :: u244 :: u245 :: u246 :: u247 :: u248 :: u249 :: u250 :: u251 :: u252 :: u253 :: u254 :: u255 :: u256 :: u257 :: u258 :: u259 :: u260 :: u261 :: u262 :: u263 :: u264 :: u265 :: u266 :: u267 :: u268 :: u269 :: u270 :: u271 :: u272 :: u273 :: u274 :: u275 :: u276 :: u277 :: u278 :: u279 :: u280 :: u281 :: u282 :: u283 :: u284 :: u285 :: u286 :: u287 :: u288 :: u289 :: u290 :: u291 :: u292 :: u293 :: u294 :: u295 :: u296 :: u297 :: u298 :: u299 :: []), []⟩ w')) :
    Code.wp Try.prog (Code.loop (loopNo 3 Try.f3)) (Exit.inBlock 6 (Exit.then K (bodyPost Try.prog Try.f3 R))) ⟨List.toArray (c0 :: c1 :: c2 :: c3 :: c4 :: c5 :: c6 :: c7 :: c8 :: (Value.pointer (some ⟨mp, 0, none⟩)) :: c10 :: c11 :: (Value.int IntKind.i64 (n : Int)) :: c13 :: c14 :: (Value.slice (some ⟨hb, 0, none⟩) n n) :: c16 :: c17 :: c18 :: c19 :: c20 :: c21 :: c22 :: c23 :: c24 :: (Value.int IntKind.i64 (0 : Int)) :: c26 :: c27 :: c28 :: c29 :: c30 :: c31 :: c32 :: c33 :: c34 :: c35 :: c36 :: c37 :: c38 :: c39 :: c40 :: c41 :: c42 :: c43 :: c44 :: c45 :: c46 :: c47 :: c48 :: c49 :: c50 :: c51 :: c52 :: c53 :: c54 :: c55 :: c56 :: c57 :: c58 :: c59 :: c60 :: c61 :: c62 :: c63 :: c64 :: c65 :: c66 :: c67 :: c68 :: c69 :: c70 :: c71 :: c72 :: c73 :: c74 :: c75 :: c76 :: c77 :: c78 :: c79 :: c80 :: c81 :: c82 :: c83 :: c84 :: c85 :: c86 :: c87 :: c88 :: c89 :: c90 :: c91 :: c92 :: c93 :: c94 :: c95 :: c96 :: c97 :: c98 :: c99 :: c100 :: c101 :: c102 :: c103 :: c104 :: c105 :: c106 :: c107 :: c108 :: c109 :: c110 :: c111 :: c112 :: c113 :: c114 :: c115 :: c116 :: c117 :: c118 :: c119 :: c120 :: c121 :: c122 :: c123 :: c124 :: c125 :: c126 :: c127 :: c128 :: c129 :: c130 :: c131 :: c132 :: c133 :: c134 :: c135 :: c136 :: c137 :: c138 :: c139 :: c140 :: c141 :: c142 :: c143 :: c144 :: c145 :: c146 :: c147 :: c148 :: c149 :: c150 :: c151 :: c152 :: c153 :: c154 :: c155 :: c156 :: c157 :: c158 :: c159 :: c160 :: c161 :: c162 :: c163 :: c164 :: c165 :: c166 :: c167 :: c168 :: c169 :: c170 :: c171 :: c172 :: c173 :: c174 :: c175 :: c176 :: c177 :: c178 :: c179 :: c180 :: c181 :: c182 :: c183 :: c184 :: c185 :: c186 :: c187 :: c188 :: c189 :: c190 :: c191 :: c192 :: c193 :: c194 :: c195 :: c196 :: c197 :: c198 :: c199 :: c200 :: c201 :: c202 :: c203 :: c204 :: c205 :: c206 :: c207 :: c208 :: c209 :: c210 :: c211 :: c212 :: c213 :: c214 :: c215 :: c216 :: c217 :: c218 :: c219 :: c220 :: c221 :: c222 :: c223 :: c224 :: c225 :: c226 :: c227 :: c228 :: c229 :: c230 :: c231 :: c232 :: c233 :: c234 :: c235 :: c236 :: c237 :: c238 :: c239 :: c240 :: c241 :: c242 :: c243 :: c244 :: c245 :: c246 :: c247 :: c248 :: c249 :: c250 :: c251 :: c252 :: c253 :: c254 :: c255 :: c256 :: c257 :: c258 :: c259 :: c260 :: c261 :: c262 :: c263 :: c264 :: c265 :: c266 :: c267 :: c268 :: c269 :: c270 :: c271 :: c272 :: c273 :: c274 :: c275 :: c276 :: c277 :: c278 :: c279 :: c280 :: c281 :: c282 :: c283 :: c284 :: c285 :: c286 :: c287 :: c288 :: c289 :: c290 :: c291 :: c292 :: c293 :: c294 :: c295 :: c296 :: c297 :: c298 :: c299 :: []), []⟩ (w5.drewN q) := by
  conv => arg 2; arg 1; whnf
  have hn0 := HM.out.n0
  have hn := HM.out.n1
  have HS : Hid (Row w5 mp 32 [.int .i64 (n : Int), .slice (some ⟨mb.rb, 0, none⟩) n n, .slice (some ⟨mb.tb, 0, none⟩) n n, .map (some mb.cb), .slice (some ⟨mb.jb, 0, none⟩) n n, .slice (some ⟨mb.lb, 0, none⟩) n n, .slice (some ⟨mb.hb, 0, none⟩) n n, .int .i64 (hc : Int)]) := hms
  have H3 : Hid (Row w5 hb 3 (ints (tab n (PL.hF P)))) := h3
  have HBND : Hid (∀ x, -1 ≤ PL.hF P x ∧ PL.hF P x ≤ 65536) := by
    intro x
    have := (HF.out.lt x).2.2
    unfold PL.hF
    split
    · omega
    · split <;> omega
  clear hms h3
  go_loopg [25] n (fun g s wr => ∃ (k q' : Nat), g = n - k ∧ k ≤ n ∧ s = .int .i64 k ∧ wr = w5.drewN q')
  case atStart => exact ⟨0, q, rfl, by omega, rfl, rfl⟩
  case round =>
    rename World => wa
    obtain ⟨k, q', rfl, hk, rfl, hwr⟩ := hrel
    have HWR : Hid (wa = w5.drewN q') := hwr
    have hA : MeshAt wa n mb m := by rw [hwr]; exact HA.out.kp ((Kp.refl _ _ _).drewN q')
    have hs := HS.out.drewN q'
    have r3 := H3.out.drewN q'
    rw [← hwr] at hs r3
    clear hwr
    by_cases hkn : k < n
    · have x3 := r3.cell (ints_at (tab_at n k _ hkn))
      obtain ⟨hb1, hb2⟩ := HBND.out k
      obtain ⟨hk3, hk3e⟩ : ∃ x, PL.hF P k = x := ⟨_, rfl⟩
      rw [hk3e] at x3 hb1 hb2
      have HK3 : Hid (PL.hF P k = hk3) := hk3e
      clear hk3e
      by_cases h0 : hk3 < 0
      · have g0 : decide (hk3 < 0) = true := by simp <;> omega
        clear hA hs r3
        go_wp2
        go_roundg (n - (k + 1))
        case measure => omega
        case rel => exact ⟨k + 1, q', rfl, by omega, by go_num, HWR.out⟩
      · have g0 : decide (hk3 < 0) = false := by simp <;> omega
        have s4 := hs.cell (i := 4) rfl
        obtain ⟨jv, hjv⟩ : ∃ jv, mb.JV[k]? = some jv := ⟨_, List.getElem?_eq_getElem (by rw [hA.jn.len]; exact hkn)⟩
        have hown := hA.jn.own k jv hkn hjv
        obtain ⟨jo, jc, rfl, hjc⟩ := owns_form hown
        have j1 := hA.jn.row.cell hjv
        have hjl := PL.jlen HM.out k hkn
        obtain ⟨jl, hjle⟩ : ∃ jl, (PL.tg m.J k).length = jl := ⟨_, rfl⟩
        rw [hjle] at hjl j1 hjc
        have HJL : Hid ((PL.tg m.J k).length = jl) := hjle
        have HJC2 : Hid (0 < jl → ∃ g, jo = some ⟨g, 0, none⟩ ∧ ∀ (j : Nat) (u : Value), (nats (PL.tg m.J k))[j]? = some u → w5.cell? ⟨g, j, none⟩ = some u) := fun h => by
          obtain ⟨g, h1, _, _, h2⟩ := hjc h
          refine ⟨g, h1, fun j u hu => ?_⟩
          have := h2 j u hu
          rw [HWR.out] at this
          exact this
        have HCL : Hid (∀ x, x ∈ PL.tg m.J k → 0 ≤ PL.hF P x ∧ PL.hF P x ≤ hk3 + 1) := by
          intro x hx
          have hcl := HF.out.clos k (by
            by_cases e : k = 0
            · exact .inl e
            · right
              have := HK3.out
              unfold PL.hF at this
              rw [if_neg e] at this
              by_cases h00 : (P k).hops = 0
              · rw [if_pos h00] at this; omega
              · omega) x hx
          have hkh : hk3 = ((P k).hops : Int) := by
            have := HK3.out
            unfold PL.hF at this
            by_cases e : k = 0
            · rw [if_pos e] at this; rw [e, HF.out.z, ← this]; rfl
            · rw [if_neg e] at this
              by_cases h00 : (P k).hops = 0
              · rw [if_pos h00] at this; omega
              · rw [if_neg h00] at this; exact this.symm
          unfold PL.hF
          by_cases e : x = 0
          · rw [if_pos e]; omega
          · rw [if_neg e]
            have h1 : 0 < (P x).hops := hcl.1.resolve_left e
            rw [if_neg (by omega)]
            have := hcl.2
            omega
        clear hown hjv hjle hjc hA hs r3
        go_wp2_with fail
        go_loopg [278] jl (fun g s wi => ∃ (t q2 : Nat), g = jl - t ∧ t ≤ jl ∧ s = .int .i64 t ∧ wi = w5.drewN q2)
        case atStart => exact ⟨0, q', rfl, by omega, rfl, HWR.out⟩
        case round =>
          clear x3 s4 j1 g0
          rename World => wi
          obtain ⟨t, q2, rfl, ht, rfl, hwi⟩ := hrel
          have HWI : Hid (wi = w5.drewN q2) := hwi
          by_cases htt : t < jl
          · obtain ⟨gj, rfl, hgj⟩ := HJC2.out (by omega)
            obtain ⟨x, hx⟩ : ∃ x, (PL.tg m.J k)[t]? = some x := ⟨_, List.getElem?_eq_getElem (by rw [HJL.out]; exact htt)⟩
            have xm := List.mem_of_getElem? hx
            have xc : wi.cell? ⟨gj, t, none⟩ = some (.int .i64 (x : Int)) := by rw [hwi]; exact hgj t _ (nats_at hx)
            have hxn : x < n := ((PL.gr_of HM.out).rng k x xm).1
            have r3 := H3.out.drewN q2
            rw [← hwi] at r3
            have x3 := r3.cell (ints_at (tab_at n x _ hxn))
            have y3 := r3.cell (ints_at (tab_at n k _ hkn))
            rw [HK3.out] at y3
            obtain ⟨c1, c2⟩ := HCL.out x xm
            obtain ⟨b1, b2⟩ := HBND.out x
            generalize PL.hF P x = hx3 at *
            have g1 : decide (hx3 < 0) = false := by simp <;> omega
            have g2 : decide (hk3 + 1 < hx3) = false := by simp <;> omega
            clear r3 hx xm hgj hwi
            go_upto_region 57 with fail
            go_quiet (fail)
            go_wp2
            go_roundg (jl - (t + 1))
            case measure => omega
            case rel => exact ⟨t + 1, q2 + nq, rfl, by omega, by go_num, by rw [HWI.out]; simp [World.drewN, Nat.add_assoc]⟩
          · clear hwi
            go_wp2
            go_roundg (n - (k + 1))
            case measure => omega
            case rel => exact ⟨k + 1, q2, rfl, by omega, by go_num, HWI.out⟩
    · have e : n = k := by omega
      subst e
      clear hA hs r3
      go_wp2
      apply HX.out
      exact ⟨q', HWR.out⟩
end Go.Proofs.Qxb6600010a
