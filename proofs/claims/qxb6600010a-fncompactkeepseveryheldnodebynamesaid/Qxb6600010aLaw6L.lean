/-
  THE LOOPS OF FnCompactKeepsEveryHeldNodeByName.
-/
import Derived.Test.Qxb6600010aLaw6P
import Derived.Deep.RegionHeld3
import Derived.BigQuiet
namespace Go.Proofs.Qxb6600010a
open Go.RowKit
set_option linter.unusedVariables false
set_option linter.unusedSimpArgs false
attribute [local go_sem ↓] Go.wp_at_zero Go.wp_at_succ
set_option maxHeartbeats 20000000 in
set_option maxRecDepth 1000000 in
theorem law6_loop1 {c0 c1 c2 c3 c4 c5 c6 c7 c8 c13 c14 c15 c16 c17 c18 c19 c20 c21 c22 c23 c24 c25 c26 c27 c28 c29 c30 c31 c32 c33 c34 c35 c36 c37 c38 c39 c40 c41 c42 c43 c44 c45 c46 c47 c48 c49 c50 c51 c52 c53 c54 c55 c56 c57 c58 c59 c60 c61 c62 c63 c64 c65 c66 c67 c68 c69 c70 c71 c72 c73 c74 c75 c76 c77 c78 c79 c80 c81 c82 c83 c84 c85 c86 c87 c88 c89 c90 c91 c92 c93 c94 c95 c96 c97 c98 c99 c100 c101 c102 c103 c104 c105 c106 c107 c108 c109 c110 c111 c112 c113 c114 c115 c116 c117 c118 c119 c120 c121 c122 c123 c124 c125 c126 c127 c128 c129 c130 c131 c132 c133 c134 c135 c136 c137 c138 c139 c140 c141 c142 c143 c144 c145 c146 c147 c148 c149 c150 c151 c152 c153 c154 c155 c156 c157 c158 c159 c160 c161 c162 c163 c164 c165 c166 c167 c168 c169 c170 c171 c172 c173 c174 c175 c176 c177 c178 c179 c180 c181 c182 c183 c184 c185 c186 c187 c188 c189 c190 c191 c192 c193 c194 c195 c196 c197 c198 c199 c200 c201 c202 c203 c204 c205 c206 c207 c208 c209 c210 c211 c212 c213 c214 c215 c216 c217 c218 c219 c220 c221 c222 c223 c224 c225 c226 c227 c228 c229 c230 c231 c232 c233 c234 c235 c236 c237 c238 c239 c240 c241 c242 c243 c244 c245 c246 c247 c248 c249 c250 c251 c252 c253 c254 c255 c256 c257 c258 c259 c260 c261 c262 c263 : Value} {K : Act → World → Prop} {R : Ending → World → Prop} (w0 w4 : World) (p n B wb : Nat) (d : PD) (b : PB) (hn0 : 0 < n) (hn : n ≤ 65536) (HB : Hid (w0.heap.size = B)) (HP : Hid (PsAt w0 p n d b)) (HV : Hid (∀ k, k < n → ((d.P k).hops = 0 ∨ ((d.P k).via < n ∧ (d.P k).prev < n)) ∧ (d.P k).hops ≤ 1000000)) (hwb : B ≤ wb)
    (h1 : QRow w4 wb n (pre 0 (fun k => nmd d.nm (d.P k)) np0)) (hK : Kp B [] w0 w4)
    (HX : Hid (∀ (u12 u13 u14 u15 u16 u17 u18 u19 u20 u21 u22 u23 u24 u25 u26 u27 u28 u29 u30 u31 u32 u33 u34 u35 u36 u37 u38 u39 u40 u41 u42 u43 u44 u45 u46 u47 u48 u49 u50 u51 u52 u53 u54 u55 u56 u57 u58 u59 u60 u61 u62 u63 u64 u65 u66 u67 u68 u69 u70 u71 u72 u73 u74 u75 u76 u77 u78 u79 u80 u81 u82 u83 u84 u85 u86 u87 u88 u89 u90 u91 u92 u93 u94 u95 u96 u97 u98 u99 u100 u101 u102 u103 u104 u105 u106 u107 u108 u109 u110 u111 u112 u113 u114 u115 u116 u117 u118 u119 u120 u121 u122 u123 u124 u125 u126 u127 u128 u129 u130 u131 u132 u133 u134 u135 u136 u137 u138 u139 u140 u141 u142 u143 u144 u145 u146 u147 u148 u149 u150 u151 u152 u153 u154 u155 u156 u157 u158 u159 u160 u161 u162 u163 u164 u165 u166 u167 u168 u169 u170 u171 u172 u173 u174 u175 u176 u177 u178 u179 u180 u181 u182 u183 u184 u185 u186 u187 u188 u189 u190 u191 u192 u193 u194 u195 u196 u197 u198 u199 u200 u201 u202 u203 u204 u205 u206 u207 u208 u209 u210 u211 u212 u213 u214 u215 u216 u217 u218 u219 u220 u221 u222 u223 u224 u225 u226 u227 u228 u229 u230 u231 u232 u233 u234 u235 u236 u237 u238 u239 u240 u241 u242 u243 u244 u245 u246 u247 u248 u249 u250 u251 u252 u253 u254 u255 u256 u257 u258 u259 u260 u261 u262 u263 : Value) (w' : World), QRow w' wb n (fun k => nmd d.nm (d.P k)) ∧ Kp B [] w0 w' → K ⟨List.toArray (c0 :: c1 :: c2 :: c3 :: c4 :: c5 :: c6 :: c7 :: c8 :: (Value.pointer (some ⟨p, 0, none⟩)) :: (Value.int IntKind.i64 (n : Int)) :: (Value.slice (some ⟨wb, 0, none⟩) n n) :: u12 :: u13 :: u14 :: u15 :: u16 :: u17 :: u18 :: u19 :: u20 :: u21 :: u22 :: u23 :: u24 :: u25 :: u26 :: u27 :: u28 :: u29 :: u30 :: u31 :: u32 :: u33 :: u34 :: u35 :: u36 :: u37 :: u38 :: u39 :: u40 :: u41 :: u42 :: u43 :: u44 :: u45 :: u46 :: u47 :: u48 :: u49 :: u50 :: u51 :: u52 :: u53 :: u54 :: u55 :: u56 :: u57 :: u58 :: u59 :: u60 :: u61 :: u62 :: u63 :: u64 :: u65 :: u66 :: u67 :: u68 :: u69 :: u70 :: u71 :: u72 :: u73 :: u74 :: u75 :: u76 :: u77 :: u78 :: u79 :: u80 :: u81 :: u82 :: u83 :: u84 :: u85 :: u86 :: u87 :: u88 :: u89 :: u90 :: u91 :: u92 :: u93 :: u94 :: u95 :: u96 :: u97 :: u98 :: u99 :: u100 :: u101 :: u102 :: u103 :: u104 :: u105 :: u106 :: u107 :: u108 :: u109 :: u110 :: u111 :: u112 :: u113 :: u114 :: u115 :: u116 :: u117 :: u118 :: u119 :: u120 :: u121 :: u122 :: u123 :: u124 :: u125 :: u126 :: u127 :: u128 :: u129 :: u130 :: u131 :: u132 :: u133 :: u134 :: u135 :: u136 :: u137 :: u138 :: u139 :: u140 :: u141 :: u142 :: u143 :: u144 :: u145 :: u146 :: u147 :: u148 :: u149 :: u150 :: u151 :: u152 :: u153 :: u154 :: u155 :: u156 :: u157 :: u158 :: u159 :: u160 :: u161 :: u162 :: u163 :: u164 :: u165 :: u166 :: u167 :: u168 :: u169 :: u170 :: u171 :: u172 :: u173 :: u174 :: u175 :: u176 :: u177 :: u178 :: u179 :: u180 :: u181 :: u182 :: u183 :: u184 :: u185 :: u186 :: u187 :: u188 :: u189 :: u190 :: u191 :: u192 :: u193 :: u194 :: u195 :: u196 :: u197 :: u198 :: u199 :: u200 :: u201 :: u202 :: u203 :: u204 :: u205 :: u206 :: u207 :: u208 :: u209 :: u210 :: u211 :: u212 :: u213 :: u214 :: u215 :: u216 :: u217 :: u218 :: u219 :: u220 :: u221 :: u222 :: u223 :: u224 :: u225 :: u226 :: u227 :: u228 :: u229 :: u230 :: u231 :: u232 :: u233 :: u234 :: u235 :: u236 :: u237 :: u238 :: u239 :: u240 :: u241 :: u242 :: u243 :: u244 :: u245 :: u246 :: u247 :: u248 :: u249 :: u250 :: u251 :: u252 :: u253 :: u254 :: u255 :: u256 :: u257 :: u258 :: u259 :: u260 :: u261 :: u262 :: u263 :: []), []⟩ w')) :
    Code.wp Try.prog (Code.loop (loopNo 0 Try.f6)) (Exit.inBlock 0 (Exit.then K (bodyPost Try.prog Try.f6 R))) ⟨List.toArray (c0 :: c1 :: c2 :: c3 :: c4 :: c5 :: c6 :: c7 :: c8 :: (Value.pointer (some ⟨p, 0, none⟩)) :: (Value.int IntKind.i64 (n : Int)) :: (Value.slice (some ⟨wb, 0, none⟩) n n) :: (Value.int IntKind.i64 (0 : Int)) :: c13 :: c14 :: c15 :: c16 :: c17 :: c18 :: c19 :: c20 :: c21 :: c22 :: c23 :: c24 :: c25 :: c26 :: c27 :: c28 :: c29 :: c30 :: c31 :: c32 :: c33 :: c34 :: c35 :: c36 :: c37 :: c38 :: c39 :: c40 :: c41 :: c42 :: c43 :: c44 :: c45 :: c46 :: c47 :: c48 :: c49 :: c50 :: c51 :: c52 :: c53 :: c54 :: c55 :: c56 :: c57 :: c58 :: c59 :: c60 :: c61 :: c62 :: c63 :: c64 :: c65 :: c66 :: c67 :: c68 :: c69 :: c70 :: c71 :: c72 :: c73 :: c74 :: c75 :: c76 :: c77 :: c78 :: c79 :: c80 :: c81 :: c82 :: c83 :: c84 :: c85 :: c86 :: c87 :: c88 :: c89 :: c90 :: c91 :: c92 :: c93 :: c94 :: c95 :: c96 :: c97 :: c98 :: c99 :: c100 :: c101 :: c102 :: c103 :: c104 :: c105 :: c106 :: c107 :: c108 :: c109 :: c110 :: c111 :: c112 :: c113 :: c114 :: c115 :: c116 :: c117 :: c118 :: c119 :: c120 :: c121 :: c122 :: c123 :: c124 :: c125 :: c126 :: c127 :: c128 :: c129 :: c130 :: c131 :: c132 :: c133 :: c134 :: c135 :: c136 :: c137 :: c138 :: c139 :: c140 :: c141 :: c142 :: c143 :: c144 :: c145 :: c146 :: c147 :: c148 :: c149 :: c150 :: c151 :: c152 :: c153 :: c154 :: c155 :: c156 :: c157 :: c158 :: c159 :: c160 :: c161 :: c162 :: c163 :: c164 :: c165 :: c166 :: c167 :: c168 :: c169 :: c170 :: c171 :: c172 :: c173 :: c174 :: c175 :: c176 :: c177 :: c178 :: c179 :: c180 :: c181 :: c182 :: c183 :: c184 :: c185 :: c186 :: c187 :: c188 :: c189 :: c190 :: c191 :: c192 :: c193 :: c194 :: c195 :: c196 :: c197 :: c198 :: c199 :: c200 :: c201 :: c202 :: c203 :: c204 :: c205 :: c206 :: c207 :: c208 :: c209 :: c210 :: c211 :: c212 :: c213 :: c214 :: c215 :: c216 :: c217 :: c218 :: c219 :: c220 :: c221 :: c222 :: c223 :: c224 :: c225 :: c226 :: c227 :: c228 :: c229 :: c230 :: c231 :: c232 :: c233 :: c234 :: c235 :: c236 :: c237 :: c238 :: c239 :: c240 :: c241 :: c242 :: c243 :: c244 :: c245 :: c246 :: c247 :: c248 :: c249 :: c250 :: c251 :: c252 :: c253 :: c254 :: c255 :: c256 :: c257 :: c258 :: c259 :: c260 :: c261 :: c262 :: c263 :: []), []⟩ w4 := by
  conv => arg 2; arg 1; whnf
  go_loopg [12] n (fun g s wr => ∃ (k : Nat), g = n - k ∧ k ≤ n ∧ s = .int .i64 k ∧ QRow wr wb n (pre k (fun k => nmd d.nm (d.P k)) np0) ∧ Kp B [] w0 wr)
  case atStart => exact ⟨0, rfl, by omega, rfl, h1, hK⟩
  case round =>
    clear h1 hK
    rename World => wa
    obtain ⟨k, rfl, hk, rfl, h1, hK⟩ := hrel
    by_cases hkn : k < n
    · have hPa := HP.out.kp (by rw [HB.out]; exact hK)
      have hv := HV.out k hkn
      have hc := zznamed_any wa p n k d b hPa hkn hn hv.1 hv.2
      have hla := h1.lt
      have hBw : B ≤ wa.heap.size := by omega
      have H1 : Hid (QRow wa wb n (pre k (fun k => nmd d.nm (d.P k)) np0)) := h1
      obtain ⟨⟨xv, xh, xp⟩, hx⟩ : ∃ x, nmd d.nm (d.P k) = x := ⟨_, rfl⟩
      rw [hx] at hc
      have HX2 : Hid (nmd d.nm (d.P k) = ⟨xv, xh, xp⟩) := hx
      unfold npV at hc
      simp only [] at hc
      clear hPa hv hx h1
      go_wp2_with fail
      refine hc.mono ?_
      rintro e w1 ⟨rfl, hk1'⟩
      clear hc
      have hK1 : Kp B [] w0 w1 := hK.trans (hk1'.mono hBw (by simp))
      have hr := H1.out.kp hk1' hla (by simp)
      obtain ⟨⟨x1, x2, x3⟩, y1, y2, y3⟩ := hr.cells k hkn
      have HZ : Hid (QRow (((w1.setCell ⟨wb, k * 3, none⟩ (.string xv)).setCell ⟨wb, k * 3 + 1, none⟩ (.int .i64 (xh : Int))).setCell ⟨wb, k * 3 + 2, none⟩ (.string xp)) wb n (pre (k + 1) (fun k => nmd d.nm (d.P k)) np0)) := pre_step (hr.set hkn ⟨xv, xh, xp⟩) HX2.out.symm
      have HZK : Hid (Kp B [] w0 (((w1.setCell ⟨wb, k * 3, none⟩ (.string xv)).setCell ⟨wb, k * 3 + 1, none⟩ (.int .i64 (xh : Int))).setCell ⟨wb, k * 3 + 2, none⟩ (.string xp))) := ((hK1.setCell (.inl hwb) _).setCell (.inl hwb) _).setCell (.inl hwb) _
      clear hk1' hr hK1 H1 hla
      go_wp2
      go_roundg (n - (k + 1))
      case measure => omega
      case rel => exact ⟨k + 1, rfl, by omega, by go_num, HZ.out, HZK.out⟩
    · have e : n = k := by omega
      subst e
      have HQ : Hid (QRow wa wb n (fun k => nmd d.nm (d.P k))) := h1.congr (fun k hk => by simp [pre, hk])
      clear h1
      go_wp2
      apply HX.out
      exact ⟨HQ.out, hK⟩
set_option maxHeartbeats 20000000 in
set_option maxRecDepth 1000000 in
theorem law6_loop2 {c1 c2 c3 c4 c5 c6 c8 c12 c15 c16 c17 c18 c19 c20 c21 c22 c23 c24 c25 c26 c27 c28 c29 c30 c31 c32 c33 c34 c35 c36 c37 c38 c39 c40 c41 c42 c43 c44 c45 c46 c47 c48 c49 c50 c51 c52 c53 c54 c55 c56 c57 c58 c59 c60 c61 c62 c63 c64 c65 c66 c67 c68 c69 c70 c71 c72 c73 c74 c75 c76 c77 c78 c79 c80 c81 c82 c83 c84 c85 c86 c87 c88 c89 c90 c91 c92 c93 c94 c95 c96 c97 c98 c99 c100 c101 c102 c103 c104 c105 c106 c107 c108 c109 c110 c111 c112 c113 c114 c115 c116 c117 c118 c119 c120 c121 c122 c123 c124 c125 c126 c127 c128 c129 c130 c131 c132 c133 c134 c135 c136 c137 c138 c139 c140 c141 c142 c143 c144 c145 c146 c147 c148 c149 c150 c151 c152 c153 c154 c155 c156 c157 c158 c159 c160 c161 c162 c163 c164 c165 c166 c167 c168 c169 c170 c171 c172 c173 c174 c175 c176 c177 c178 c179 c180 c181 c182 c183 c184 c185 c186 c187 c188 c189 c190 c191 c192 c193 c194 c195 c196 c197 c198 c199 c200 c201 c202 c203 c204 c205 c206 c207 c208 c209 c210 c211 c212 c213 c214 c215 c216 c217 c218 c219 c220 c221 c222 c223 c224 c225 c226 c227 c228 c229 c230 c231 c232 c233 c234 c235 c236 c237 c238 c239 c240 c241 c242 c243 c244 c245 c246 c247 c248 c249 c250 c251 c252 c253 c254 c255 c256 c257 c258 c259 c260 c261 c262 c263 : Value} {K : Act → World → Prop} {R : Ending → World → Prop} (w0 : World) (p n hc B wb nb mp : Nat) (d : PD) (b : PB) (ss : List ByteArray) (m : PL.PM) (mb : MB) (P : Nat → PT) (HB : Hid (w0.heap.size = B)) (HM : Hid (PL.PMesh ss n m)) (HA : Hid (MeshAt w0 n mb m)) (HP : Hid (PsAt w0 p hc d b)) (HK6 : Hid (K6 n hc (fun k => ss[k]?.getD ⟨#[]⟩) m P d)) (HSZ : Hid (∀ k : Nat, (ss[k]?.getD ⟨#[]⟩).size ≤ maxLen)) (HN : Hid (Row w0 nb 9 (strs ss))) (HQ : Hid (QRow w0 wb n (fun k => nmd (fun k => ss[k]?.getD ⟨#[]⟩) (P k)))) (HMS : Hid (Row w0 mp 32 [.int .i64 (n : Int), .slice (some ⟨mb.rb, 0, none⟩) n n, .slice (some ⟨mb.tb, 0, none⟩) n n, .map (some mb.cb), .slice (some ⟨mb.jb, 0, none⟩) n n, .slice (some ⟨mb.lb, 0, none⟩) n n, .slice (some ⟨mb.hb, 0, none⟩) n n, .int .i64 (hc : Int)]))
    (HX : Hid (∀ (u6 u13 u14 u15 u16 u17 u18 u19 u20 u21 u22 u23 u24 u25 u26 u27 u28 u29 u30 u31 u32 u33 u34 u35 u36 u37 u38 u39 u40 u41 u42 u43 u44 u45 u46 u47 u48 u49 u50 u51 u52 u53 u54 u55 u56 u57 u58 u59 u60 u61 u62 u63 u64 u65 u66 u67 u68 u69 u70 u71 u72 u73 u74 u75 u76 u77 u78 u79 u80 u81 u82 u83 u84 u85 u86 u87 u88 u89 u90 u91 u92 u93 u94 u95 u96 u97 u98 u99 u100 u101 u102 u103 u104 u105 u106 u107 u108 u109 u110 u111 u112 u113 u114 u115 u116 u117 u118 u119 u120 u121 u122 u123 u124 u125 u126 u127 u128 u129 u130 u131 u132 u133 u134 u135 u136 u137 u138 u139 u140 u141 u142 u143 u144 u145 u146 u147 u148 u149 u150 u151 u152 u153 u154 u155 u156 u157 u158 u159 u160 u161 u162 u163 u164 u165 u166 u167 u168 u169 u170 u171 u172 u173 u174 u175 u176 u177 u178 u179 u180 u181 u182 u183 u184 u185 u186 u187 u188 u189 u190 u191 u192 u193 u194 u195 u196 u197 u198 u199 u200 u201 u202 u203 u204 u205 u206 u207 u208 u209 u210 u211 u212 u213 u214 u215 u216 u217 u218 u219 u220 u221 u222 u223 u224 u225 u226 u227 u228 u229 u230 u231 u232 u233 u234 u235 u236 u237 u238 u239 u240 u241 u242 u243 u244 u245 u246 u247 u248 u249 u250 u251 u252 u253 u254 u255 u256 u257 u258 u259 u260 u261 u262 u263 : Value) (w' : World), Kp B [] w0 w' → K ⟨List.toArray ((Value.slice (some ⟨nb, 0, none⟩) n n) :: c1 :: c2 :: c3 :: c4 :: c5 :: u6 :: (Value.pointer (some ⟨mp, 0, none⟩)) :: c8 :: (Value.pointer (some ⟨p, 0, none⟩)) :: (Value.int IntKind.i64 (n : Int)) :: (Value.slice (some ⟨wb, 0, none⟩) n n) :: c12 :: u13 :: u14 :: u15 :: u16 :: u17 :: u18 :: u19 :: u20 :: u21 :: u22 :: u23 :: u24 :: u25 :: u26 :: u27 :: u28 :: u29 :: u30 :: u31 :: u32 :: u33 :: u34 :: u35 :: u36 :: u37 :: u38 :: u39 :: u40 :: u41 :: u42 :: u43 :: u44 :: u45 :: u46 :: u47 :: u48 :: u49 :: u50 :: u51 :: u52 :: u53 :: u54 :: u55 :: u56 :: u57 :: u58 :: u59 :: u60 :: u61 :: u62 :: u63 :: u64 :: u65 :: u66 :: u67 :: u68 :: u69 :: u70 :: u71 :: u72 :: u73 :: u74 :: u75 :: u76 :: u77 :: u78 :: u79 :: u80 :: u81 :: u82 :: u83 :: u84 :: u85 :: u86 :: u87 :: u88 :: u89 :: u90 :: u91 :: u92 :: u93 :: u94 :: u95 :: u96 :: u97 :: u98 :: u99 :: u100 :: u101 :: u102 :: u103 :: u104 :: u105 :: u106 :: u107 :: u108 :: u109 :: u110 :: u111 :: u112 :: u113 :: u114 :: u115 :: u116 :: u117 :: u118 :: u119 :: u120 :: u121 :: u122 :: u123 :: u124 :: u125 :: u126 :: u127 :: u128 :: u129 :: u130 :: u131 :: u132 :: u133 :: u134 :: u135 :: u136 :: u137 :: u138 :: u139 :: u140 :: u141 :: u142 :: u143 :: u144 :: u145 :: u146 :: u147 :: u148 :: u149 :: u150 :: u151 :: u152 :: u153 :: u154 :: u155 :: u156 :: u157 :: u158 :: u159 :: u160 :: u161 :: u162 :: u163 :: u164 :: u165 :: u166 :: u167 :: u168 :: u169 :: u170 :: u171 :: u172 :: u173 :: u174 :: u175 :: u176 :: u177 :: u178 :: u179 :: u180 :: u181 :: u182 :: u183 :: u184 :: u185 :: u186 :: u187 :: u188 :: u189 :: u190 :: u191 :: u192 :: u193 :: u194 :: u195 :: u196 :: u197 :: u198 :: u199 :: u200 :: u201 :: u202 :: u203 :: u204 :: u205 :: u206 :: u207 :: u208 :: u209 :: u210 :: u211 :: u212 :: u213 :: u214 :: u215 :: u216 :: u217 :: u218 :: u219 :: u220 :: u221 :: u222 :: u223 :: u224 :: u225 :: u226 :: u227 :: u228 :: u229 :: u230 :: u231 :: u232 :: u233 :: u234 :: u235 :: u236 :: u237 :: u238 :: u239 :: u240 :: u241 :: u242 :: u243 :: u244 :: u245 :: u246 :: u247 :: u248 :: u249 :: u250 :: u251 :: u252 :: u253 :: u254 :: u255 :: u256 :: u257 :: u258 :: u259 :: u260 :: u261 :: u262 :: u263 :: []), []⟩ w')) :
    Code.wp Try.prog (Code.loop (loopNo 1 Try.f6)) (Exit.inBlock 2 (Exit.then K (bodyPost Try.prog Try.f6 R))) ⟨List.toArray ((Value.slice (some ⟨nb, 0, none⟩) n n) :: c1 :: c2 :: c3 :: c4 :: c5 :: c6 :: (Value.pointer (some ⟨mp, 0, none⟩)) :: c8 :: (Value.pointer (some ⟨p, 0, none⟩)) :: (Value.int IntKind.i64 (n : Int)) :: (Value.slice (some ⟨wb, 0, none⟩) n n) :: c12 :: (Value.int IntKind.i64 (0 : Int)) :: (Value.int IntKind.i64 (0 : Int)) :: c15 :: c16 :: c17 :: c18 :: c19 :: c20 :: c21 :: c22 :: c23 :: c24 :: c25 :: c26 :: c27 :: c28 :: c29 :: c30 :: c31 :: c32 :: c33 :: c34 :: c35 :: c36 :: c37 :: c38 :: c39 :: c40 :: c41 :: c42 :: c43 :: c44 :: c45 :: c46 :: c47 :: c48 :: c49 :: c50 :: c51 :: c52 :: c53 :: c54 :: c55 :: c56 :: c57 :: c58 :: c59 :: c60 :: c61 :: c62 :: c63 :: c64 :: c65 :: c66 :: c67 :: c68 :: c69 :: c70 :: c71 :: c72 :: c73 :: c74 :: c75 :: c76 :: c77 :: c78 :: c79 :: c80 :: c81 :: c82 :: c83 :: c84 :: c85 :: c86 :: c87 :: c88 :: c89 :: c90 :: c91 :: c92 :: c93 :: c94 :: c95 :: c96 :: c97 :: c98 :: c99 :: c100 :: c101 :: c102 :: c103 :: c104 :: c105 :: c106 :: c107 :: c108 :: c109 :: c110 :: c111 :: c112 :: c113 :: c114 :: c115 :: c116 :: c117 :: c118 :: c119 :: c120 :: c121 :: c122 :: c123 :: c124 :: c125 :: c126 :: c127 :: c128 :: c129 :: c130 :: c131 :: c132 :: c133 :: c134 :: c135 :: c136 :: c137 :: c138 :: c139 :: c140 :: c141 :: c142 :: c143 :: c144 :: c145 :: c146 :: c147 :: c148 :: c149 :: c150 :: c151 :: c152 :: c153 :: c154 :: c155 :: c156 :: c157 :: c158 :: c159 :: c160 :: c161 :: c162 :: c163 :: c164 :: c165 :: c166 :: c167 :: c168 :: c169 :: c170 :: c171 :: c172 :: c173 :: c174 :: c175 :: c176 :: c177 :: c178 :: c179 :: c180 :: c181 :: c182 :: c183 :: c184 :: c185 :: c186 :: c187 :: c188 :: c189 :: c190 :: c191 :: c192 :: c193 :: c194 :: c195 :: c196 :: c197 :: c198 :: c199 :: c200 :: c201 :: c202 :: c203 :: c204 :: c205 :: c206 :: c207 :: c208 :: c209 :: c210 :: c211 :: c212 :: c213 :: c214 :: c215 :: c216 :: c217 :: c218 :: c219 :: c220 :: c221 :: c222 :: c223 :: c224 :: c225 :: c226 :: c227 :: c228 :: c229 :: c230 :: c231 :: c232 :: c233 :: c234 :: c235 :: c236 :: c237 :: c238 :: c239 :: c240 :: c241 :: c242 :: c243 :: c244 :: c245 :: c246 :: c247 :: c248 :: c249 :: c250 :: c251 :: c252 :: c253 :: c254 :: c255 :: c256 :: c257 :: c258 :: c259 :: c260 :: c261 :: c262 :: c263 :: []), []⟩ w0 := by
  conv => arg 2; arg 1; whnf
  have hn0 := HM.out.n0
  have hn := HM.out.n1
  have hml : mp < B := by rw [← HB.out]; exact HMS.out.lt
  have hnl : nb < B := by rw [← HB.out]; exact HN.out.lt
  have hwl : wb < B := by rw [← HB.out]; exact HQ.out.lt
  have HMK : Hid (∀ W, Kp B [] w0 W → Row W mp 32 [.int .i64 (n : Int), .slice (some ⟨mb.rb, 0, none⟩) n n, .slice (some ⟨mb.tb, 0, none⟩) n n, .map (some mb.cb), .slice (some ⟨mb.jb, 0, none⟩) n n, .slice (some ⟨mb.lb, 0, none⟩) n n, .slice (some ⟨mb.hb, 0, none⟩) n n, .int .i64 (hc : Int)] ∧ MeshAt W n mb m ∧ PsAt W p hc d b ∧ Row W nb 9 (strs ss) ∧ QRow W wb n (fun k => nmd (fun k => ss[k]?.getD ⟨#[]⟩) (P k))) := fun W hW =>
    ⟨HMS.out.kp hW hml (by simp), HA.out.kp (by rw [HB.out]; exact hW), HP.out.kp (by rw [HB.out]; exact hW), HN.out.kp hW hnl (by simp), HQ.out.kp hW hwl (by simp)⟩
  have HNM : Hid (∀ k, k < n → ∃ s, ss[k]? = some s ∧ s.size ≤ maxLen ∧ ss[k]?.getD ⟨#[]⟩ = s) := fun k hk => by
    have hs := List.getElem?_eq_getElem (l := ss) (i := k) (by rw [HM.out.nl]; exact hk)
    have h2 : ss[k]?.getD ⟨#[]⟩ = ss[k]'(by rw [HM.out.nl]; exact hk) := by rw [hs]; rfl
    exact ⟨_, hs, by rw [← h2]; exact HSZ.out k, h2⟩
  clear HA HP HN HQ HMS HSZ hml hnl hwl
  go_loopg [13, 14] n (fun g s13 s14 wr => ∃ (k pos : Nat), g = n - k ∧ k ≤ n ∧ s13 = .int .i64 pos ∧ s14 = .int .i64 k ∧ PL.ncOf (PL.hdB m.S.T m.ls) k = pos ∧ Kp B [] w0 wr)
  case atStart => exact ⟨0, 0, rfl, by omega, rfl, rfl, rfl, Kp.refl _ _ _⟩
  case round =>
    rename World => wa
    obtain ⟨k, pos, rfl, hk, rfl, rfl, hpos, hK⟩ := hrel
    have HPOS := hid_mk hpos
    have hpk : pos ≤ k := by rw [← hpos]; exact PL.ncOf_le _ _
    clear hpos
    by_cases hkn : k < n
    · obtain ⟨hms, hA, hPa, hN, _⟩ := HMK.out wa hK
      obtain ⟨s, hs, hsz, hs'⟩ := HNM.out k hkn
      have m6 := hms.cell (i := 6) rfl
      have n1 := hN.cell (strs_at hs)
      have h1 := hA.held.cell (bools_at (PL.hds_at m.S.T m.ls n k hkn))
      have hcl := number_any wa p hc s d b hPa hsz
      have HS := hid_mk hs
      have HS' := hid_mk hs'
      clear hms hA hPa hN hs hs'
      by_cases hh : PL.hdB m.S.T m.ls k = true
      · obtain ⟨hj, hnum, hnm, hnp, hv, hhp, hls, hlc, hT, hJ, hJm⟩ := HK6.out.yes k hkn hh pos HPOS.out
        have hcn := HK6.out.le
        rw [hh] at h1
        have hnum' : d.num s = some (pos : Int) := by rw [← HS'.out]; exact hnum
        rw [hnum'] at hcl
        simp only [Option.getD_some, Option.isSome_some] at hcl
        have hnm' : d.nm pos = s := hnm.trans HS'.out
        obtain ⟨⟨xv, xh, xp⟩, hx⟩ : ∃ x, nmd (fun k => ss[k]?.getD ⟨#[]⟩) (P k) = x := ⟨_, rfl⟩
        have hnp' : nmd d.nm (d.P pos) = ⟨xv, xh, xp⟩ := hnp.trans hx
        obtain ⟨lx, hlx⟩ : ∃ lx, m.ls[k]? = some lx := ⟨_, List.getElem?_eq_getElem (by rw [HM.out.ll]; exact hkn)⟩
        have hls' : d.ls pos = lx := by rw [hls, hlx]; rfl
        have HC1 : Hid (∀ W, Kp B [] w0 W → Calls Try.prog 28 #[.pointer (some ⟨p, 0, none⟩), .int .i64 (pos : Int)] W fun e w' => e = .returned (.string s) ∧ w' = W) := by
          intro W hW
          have := name_any W p hc pos d b (HMK.out W hW).2.2.1 hj (by omega)
          rw [hnm'] at this
          exact this
        have HC2 : Hid (∀ W, Kp B [] w0 W → Calls Try.prog 22 #[.pointer (some ⟨p, 0, none⟩), .int .i64 (pos : Int)] W fun e w' => e = .returned (.agg #[.string xv, .int .i64 (xh : Int), .string xp]) ∧ Kp W.heap.size [] W w') := by
          intro W hW
          have := zznamed_any W p hc pos d b (HMK.out W hW).2.2.1 hj (by omega) hv hhp
          rw [hnp'] at this
          exact this
        have HC3 : Hid (∀ W, Kp B [] w0 W → Calls Try.prog 29 #[.pointer (some ⟨p, 0, none⟩), .int .i64 (pos : Int)] W fun e w' => e = .returned (.int .i64 (lx : Int)) ∧ Kp W.heap.size [] W w') := by
          intro W hW
          have := listers_any W p hc pos d b (HMK.out W hW).2.2.1 hj (by omega)
          rw [hls'] at this
          exact this.mono (fun e w' h => ⟨h.1, by rw [h.2]; exact Kp.refl _ _ _⟩)
        have HCC : Hid (∀ W, Kp B [] w0 W → W.cell? ⟨wb, k * 3, none⟩ = some (.string xv) ∧ W.cell? ⟨wb, k * 3 + 1, none⟩ = some (.int .i64 (xh : Int)) ∧ W.cell? ⟨wb, k * 3 + 2, none⟩ = some (.string xp) ∧ W.cell? ⟨mp, 5, none⟩ = some (.slice (some ⟨mb.lb, 0, none⟩) n n) ∧ W.cell? ⟨mb.lb, k, none⟩ = some (.int .i64 (lx : Int)) ∧ Kp B [] w0 W) := by
          intro W hW
          obtain ⟨g1, g2, g3, g4, g5⟩ := HMK.out W hW
          obtain ⟨⟨x1, x2, x3⟩, _⟩ := g5.cells k hkn
          rw [hx] at x1 x2 x3
          exact ⟨x1, x2, x3, g1.cell (i := 5) rfl, g2.lst.cell (nats_at hlx), hW⟩
        have heq := equal45 xv xh xp xv xh xp
        rw [npNe_self] at heq
        have HP2 : Hid (PL.ncOf (PL.hdB m.S.T m.ls) (k + 1) = pos + 1) := by
          show PL.ncOf (PL.hdB m.S.T m.ls) (k + 1) = pos + 1
          rw [PL.ncOf_succ, hh, HPOS.out]; rfl
        have HLC := hid_mk hlc
        have HT := hid_mk hT
        have HJ := hid_mk hJ
        have HJM := hid_mk hJm
        clear hnum hnum' hnm hnm' hnp hnp' hx hv hhp hls hls' hlx hlc hT hJ hJm
        go_wp2_with fail
        refine hcl.mono ?_
        rintro e w2 ⟨rfl, hw2⟩
        rw [hw2]
        clear hcl hw2
        go_upto_region 32 with fail
        go_quiet (first | (go_at_call 28; exact Calls.quiet_of_same (HC1.out _ (hK.drewN _))))
        have hK2 : Kp B [] w0 (wa.drewN nq) := hK.drewN _
        clear m6 n1 h1 hK HC1
        generalize wa.drewN nq = w2 at *
        go_upto_region 35 with fail
        go_cut [167] (fun v wc => v = .bool false ∧ Kp B [] w0 wc)
        case first =>
          obtain ⟨x1, x2, x3, x4, x5, _⟩ := HCC.out w2 hK2
          have hB0 : B ≤ w0.heap.size := by rw [HB.out]; exact Nat.le_refl _
          go_region_held3 (fun w' => w'.cell? ⟨wb, k * 3, none⟩ = some (.string xv) ∧ w'.cell? ⟨wb, k * 3 + 1, none⟩ = some (.int .i64 (xh : Int)) ∧ w'.cell? ⟨wb, k * 3 + 2, none⟩ = some (.string xp) ∧ w'.cell? ⟨mp, 5, none⟩ = some (.slice (some ⟨mb.lb, 0, none⟩) n n) ∧ w'.cell? ⟨mb.lb, k, none⟩ = some (.int .i64 (lx : Int)) ∧ Kp B [] w0 w') (first | exact HCC.out _ hK2.drew | (go_split_ands; refine HCC.out _ ?_; assumption) | (go_split_ands; exact HCC.out _ (Kp.step hB0 (by assumption) (by assumption)))) (first | (go_at_call 29; refine (HC3.out _ (by go_split_ands; assumption)).mono ?_; rintro e wc1 ⟨rfl, hkA⟩) | (go_at_call 22; refine (HC2.out _ (by go_split_ands; assumption)).mono ?_; rintro e wc2 ⟨rfl, hkB⟩))
          all_goals
            go_wp2
            go_meet
            case rel => exact ⟨rfl, by go_split_ands; assumption⟩
        case rest =>
          obtain ⟨rfl, hK3⟩ := hcut
          have hA0 := (HMK.out w0 (Kp.refl _ _ _)).2.1
          obtain ⟨g1, hA, _⟩ := HMK.out wc hK3
          obtain ⟨tv, htv⟩ : ∃ tv, mb.TV[k]? = some tv := ⟨_, List.getElem?_eq_getElem (by rw [hA.tg.len]; exact hkn)⟩
          obtain ⟨tl, htl⟩ : ∃ tl, (PL.tg m.S.T k).length = tl := ⟨_, rfl⟩
          have hown := hA0.tg.own k tv htv
          rw [htl] at hown
          obtain ⟨tao, tc, rfl, _⟩ := owns_form hown
          have HTR : Hid (0 < tl → ∃ g, tao = some ⟨g, 0, none⟩ ∧ g < B ∧ ∃ rest, Row w0 g 3 (nats (PL.tg m.S.T k) ++ rest)) := fun h => by
            obtain ⟨g, cap, rest, hv, _, hr, _⟩ := owns_to_row hown h
            simp only [Value.slice.injEq] at hv
            exact ⟨g, hv.1, by rw [← HB.out]; exact hr.lt, rest, hr⟩
          have hts : tl ≤ 65536 := by rw [← htl]; exact HM.out.inv.short k
          have s2 := g1.cell (i := 2) rfl
          have t2 := hA.tg.row.cell htv
          have HTV := hid_mk htv
          have HTL := hid_mk htl
          have HC4 : Hid (∀ W, Kp B [] w0 W → Calls Try.prog 30 #[.pointer (some ⟨p, 0, none⟩), .int .i64 (pos : Int)] W fun e w' => e = .returned (.int .i64 (tl : Int)) ∧ w' = W) := by
            intro W hW
            have := linkCount_any W p hc pos d b (HMK.out W hW).2.2.1 hj (by omega)
            rw [HLC.out, HTL.out] at this
            exact this
          have HC5 : Hid (∀ W t, Kp B [] w0 W → t ∈ PL.tg m.S.T k → ∀ j cx, PL.ncOf (PL.hdB m.S.T m.ls) t = j → m.S.ct (k, t) = cx → Calls Try.prog 31 #[.pointer (some ⟨p, 0, none⟩), .int .i64 (pos : Int), .int .i64 (j : Int)] W fun e w' => e = .returned (.int .i64 (cx : Int)) ∧ w' = W) := by
            intro W t hW ht j cx hj2 hcx
            obtain ⟨t1, t2, t3⟩ := HT.out t ht
            subst hj2
            subst hcx
            have := linkTimes_any W p hc pos (PL.ncOf (PL.hdB m.S.T m.ls) t) d b (HMK.out W hW).2.2.1 hj (by omega) (by have := PL.ncOf_le (PL.hdB m.S.T m.ls) t; omega)
            rw [t3] at this
            exact this
          clear g1 hA htv hown htl hA0
          go_upto_region 37 with fail
          go_quiet (first | (go_at_call 30; exact Calls.quiet_of_same (HC4.out _ (hK3.drewN _))))
          have hK4 : Kp B [] w0 (wc.drewN nq) := hK3.drewN _
          clear s2 t2 hK3
          generalize wc.drewN nq = w3 at *
          obtain ⟨g1, hA, _⟩ := HMK.out w3 hK4
          have s2 := g1.cell (i := 2) rfl
          have t2 := hA.tg.row.cell HTV.out
          clear g1 hA HC4
          go_wp2_with fail
          go_loopg [184] tl (fun g s wi => ∃ (t : Nat), g = tl - t ∧ t ≤ tl ∧ s = .int .i64 t ∧ Kp B [] w0 wi)
          case atStart => exact ⟨0, rfl, by omega, rfl, hK4⟩
          case round =>
            clear s2 t2 hK4
            rename World => wi
            obtain ⟨t, rfl, ht, rfl, hKi⟩ := hrel
            by_cases htt : t < tl
            · obtain ⟨g, rfl, hgB, rest, hrow⟩ := HTR.out (by omega)
              obtain ⟨x, hx⟩ : ∃ x, (PL.tg m.S.T k)[t]? = some x := ⟨_, List.getElem?_eq_getElem (by rw [HTL.out]; exact htt)⟩
              have xm := List.mem_of_getElem? hx
              have xc := (hrow.kp hKi hgB (by simp)).cell (at_left (nats_at hx))
              obtain ⟨hxn, hxh, _⟩ := HT.out x xm
              obtain ⟨j, hje⟩ : ∃ j, PL.ncOf (PL.hdB m.S.T m.ls) x = j := ⟨_, rfl⟩
              obtain ⟨cx, hcx⟩ : ∃ cx, m.S.ct (k, x) = cx := ⟨_, rfl⟩
              have hy := (HK6.out.yes x hxn hxh j hje).2.1
              obtain ⟨sx, hsx, hsz2, hsx'⟩ := HNM.out x hxn
              obtain ⟨g1, hA, hPi, hN, _⟩ := HMK.out wi hKi
              have n2 := hN.cell (strs_at hsx)
              have hcl := number_any wi p hc sx d b hPi hsz2
              have hnumx : d.num sx = some (j : Int) := by rw [← hsx']; exact hy
              rw [hnumx] at hcl
              simp only [Option.getD_some, Option.isSome_some] at hcl
              have s3 := g1.cell (i := 3) rfl
              have hlk : ∀ q, (Instr.lookup 29 (.map (some mb.cb)) (kP (k, x)) false).run Try.prog (wi.drewN q) = .ok (.int .i64 (cx : Int)) (wi.drewN q) := fun q => by
                have := (HMK.out (wi.drewN q) (hKi.drewN q)).2.1.tg.look (p := (k, x)) (by show k ≤ _; omega) (by show x ≤ _; omega)
                rw [hcx] at this
                exact this
              unfold kP at hlk
              simp only [] at hlk
              have HC5' : Hid (∀ q, Calls Try.prog 31 #[.pointer (some ⟨p, 0, none⟩), .int .i64 (pos : Int), .int .i64 (j : Int)] (wi.drewN q) fun e w' => e = .returned (.int .i64 (cx : Int)) ∧ w' = wi.drewN q) := fun q => HC5.out _ x (hKi.drewN q) xm j cx hje hcx
              clear hrow hx hje hcx hy hsx hsx' g1 hA hPi hN hnumx hxh
              go_wp2_with fail
              refine hcl.mono ?_
              rintro e w4 ⟨rfl, hw4⟩
              rw [hw4]
              clear hcl hw4
              go_upto_region 43 with fail
              go_quiet (first | (go_at_call 31; exact Calls.quiet_of_same (HC5'.out _)))
              go_wp2
              go_roundg (tl - (t + 1))
              case measure => omega
              case rel => exact ⟨t + 1, rfl, by omega, by go_num, hKi.drewN _⟩
            · have hA0 := (HMK.out w0 (Kp.refl _ _ _)).2.1
              have hP0 := (HMK.out w0 (Kp.refl _ _ _)).2.2.1
              obtain ⟨g1, hA, hPi, _⟩ := HMK.out wi hKi
              obtain ⟨jv, hjv⟩ : ∃ jv, mb.JV[k]? = some jv := ⟨_, List.getElem?_eq_getElem (by rw [hA.jn.len]; exact hkn)⟩
              obtain ⟨jl, hjl⟩ : ∃ jl, (PL.tg m.J k).length = jl := ⟨_, rfl⟩
              have hown := hA0.jn.own k jv hkn hjv
              rw [hjl] at hown
              obtain ⟨jo, jc, rfl, _⟩ := owns_form hown
              have HJR : Hid (0 < jl → ∃ g, jo = some ⟨g, 0, none⟩ ∧ g < B ∧ ∃ rest, Row w0 g 3 (nats (PL.tg m.J k) ++ rest)) := fun h => by
                obtain ⟨g, cap, rest, hv, _, hr, _⟩ := owns_to_row hown h
                simp only [Value.slice.injEq] at hv
                exact ⟨g, hv.1, by rw [← HB.out]; exact hr.lt, rest, hr⟩
              obtain ⟨jn, hjn, hjr⟩ := jval_form (w := w0) (hP0.jn0 pos hj) (fun g => hP0.jn1 pos g hj)
              have hcj := joined_any wi p hc pos d b hPi hj (by omega)
              have hlJ : (d.J pos).length = jl := by rw [HJ.out, List.length_map, hjl]
              rw [hlJ] at hjn hjr hcj
              rw [hjn] at hcj
              have HJN : Hid (0 < jl → ∃ g, jn = some ⟨g, 0, none⟩ ∧ g < B ∧ Row w0 g 3 (nats ((PL.tg m.J k).map (PL.ncOf (PL.hdB m.S.T m.ls))))) := fun h => by
                obtain ⟨g, hg, hr⟩ := hjr h
                rw [HJ.out] at hr
                exact ⟨g, hg, by rw [← HB.out]; exact hr.lt, hr⟩
              have hjs : jl ≤ 65536 := by rw [← hjl]; exact PL.jlen HM.out k hkn
              have s4 := g1.cell (i := 4) rfl
              have j4 := hA.jn.row.cell hjv
              have HJL := hid_mk hjl
              clear hA0 hP0 g1 hA hPi hjv hown hjl hjn hjr hlJ HC5 HTR HTV HTL HT HLC HJ
              go_wp2_with fail
              refine hcj.mono ?_
              rintro e w4 ⟨rfl, hw4⟩
              rw [hw4]
              clear hcj hw4
              go_wp2_with fail
              go_loopg [231] jl (fun g s wr => ∃ (i : Nat), g = jl - i ∧ i ≤ jl ∧ s = .int .i64 i ∧ Kp B [] w0 wr)
              case atStart => exact ⟨0, rfl, by omega, rfl, hKi⟩
              case round =>
                clear s4 j4 hKi
                rename World => wj
                obtain ⟨i, rfl, hi, rfl, hKj⟩ := hrel
                by_cases hij : i < jl
                · obtain ⟨ga, rfl, hga, rest, hrow⟩ := HJR.out (by omega)
                  obtain ⟨gb, rfl, hgb, hrow2⟩ := HJN.out (by omega)
                  obtain ⟨x, hx⟩ : ∃ x, (PL.tg m.J k)[i]? = some x := ⟨_, List.getElem?_eq_getElem (by rw [HJL.out]; exact hij)⟩
                  obtain ⟨j, hje⟩ : ∃ j, PL.ncOf (PL.hdB m.S.T m.ls) x = j := ⟨_, rfl⟩
                  have xc := (hrow.kp hKj hga (by simp)).cell (at_left (nats_at hx))
                  have yc := (hrow2.kp hKj hgb (by simp)).cell (nats_at (x := j) (by rw [List.getElem?_map, hx, Option.map_some, hje]))
                  obtain ⟨hxn, hxh⟩ := HJM.out x (List.mem_of_getElem? hx)
                  obtain ⟨hjh, _, hnmx, _⟩ := HK6.out.yes x hxn hxh j hje
                  obtain ⟨sx, hsx, _, hsx'⟩ := HNM.out x hxn
                  obtain ⟨g1, _, _, hN, _⟩ := HMK.out wj hKj
                  have n2 := hN.cell (strs_at hsx)
                  have s7 := g1.cell (i := 7) rfl
                  have hnmx' : d.nm j = sx := hnmx.trans hsx'
                  have HC7 : Hid (∀ q, Calls Try.prog 28 #[.pointer (some ⟨p, 0, none⟩), .int .i64 (j : Int)] (wj.drewN q) fun e w' => e = .returned (.string sx) ∧ w' = wj.drewN q) := by
                    intro q
                    have := name_any (wj.drewN q) p hc j d b (HMK.out _ (hKj.drewN q)).2.2.1 hjh (by omega)
                    rw [hnmx'] at this
                    exact this
                  have e1 : decide ((j : Int) < 0) = false := by simp <;> omega
                  have e2 : decide ((hc : Int) ≤ (j : Int)) = false := by simp <;> omega
                  have e3 : decide (hc ≤ j) = false := by simp <;> omega
                  clear hrow hrow2 hx hje hxh hnmx hsx hsx' g1 hN hnmx'
                  go_upto_region 52 with fail
                  go_quiet (first | (go_at_call 28; exact Calls.quiet_of_same (HC7.out _)))
                  go_wp2
                  go_roundg (jl - (i + 1))
                  case measure => omega
                  case rel => exact ⟨i + 1, rfl, by omega, by go_num, hKj.drewN _⟩
                · go_wp2
                  go_roundg (n - (k + 1))
                  case measure => omega
                  case rel => exact ⟨k + 1, pos + 1, rfl, by omega, by go_num, by go_num, HP2.out, hKj⟩
      · have hh' : PL.hdB m.S.T m.ls k = false := by simpa using hh
        have hnum := HK6.out.no k hkn hh'
        have hnum' : d.num s = none := by rw [← HS'.out]; exact hnum
        rw [hnum'] at hcl
        rw [hh'] at h1
        simp only [Option.getD_none, Option.isSome_none] at hcl
        have HP2 : Hid (PL.ncOf (PL.hdB m.S.T m.ls) (k + 1) = pos) := by
          show PL.ncOf (PL.hdB m.S.T m.ls) (k + 1) = pos
          rw [PL.ncOf_succ, hh', HPOS.out]; rfl
        clear hnum hnum' hh hh'
        go_wp2_with fail
        refine hcl.mono ?_
        rintro e w2 ⟨rfl, hw2⟩
        rw [hw2]
        clear hcl hw2
        go_wp2
        go_roundg (n - (k + 1))
        case measure => omega
        case rel => exact ⟨k + 1, pos, rfl, by omega, rfl, by go_num, HP2.out, hK⟩
    · have e : n = k := by omega
      subst e
      go_wp2
      apply HX.out
      exact hK
end Go.Proofs.Qxb6600010a
