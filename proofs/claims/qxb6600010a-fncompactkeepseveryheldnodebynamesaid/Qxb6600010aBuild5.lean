/-
  THE LOOP OF zzBuild OVER THE JOINED LISTS.
-/
import Derived.Test.Qxb6600010aBuildP
namespace Go.Proofs.Qxb6600010a
open Go.RowKit
set_option linter.unusedVariables false
set_option linter.unusedSimpArgs false
attribute [local go_sem ↓] Go.wp_at_zero Go.wp_at_succ

set_option maxHeartbeats 20000000 in
set_option maxRecDepth 1000000 in
theorem build_loop5 {c0 c1 c2 c3 c4 c5 c6 c7 c10 c11 c12 c13 c14 c15 c16 c17 c18 c20 c21 c22 c23 c24 c25 c26 c27 c28 c29 c30 c31 c32 c33 c34 c35 c36 c37 c38 c39 c40 c41 c42 c43 c44 c45 c46 c47 c48 c49 c50 c51 c52 c53 c54 c55 c56 c57 c58 c59 c60 c61 c62 c63 c64 c65 c66 c67 c68 c69 c70 c71 c72 c73 c74 c75 c76 c77 c78 c79 c80 c81 c82 c83 c84 c85 c86 c87 c88 c89 c90 c91 c92 c93 c94 c95 c96 c97 c98 c99 c100 c101 c102 c103 c104 c105 c106 c107 c108 c109 c110 c111 c112 c113 c114 c115 c116 c117 c118 c119 c120 c121 c122 c123 c124 c125 c126 c127 c128 c129 c130 c131 c132 c133 c134 c135 c136 c137 c138 c139 c140 c141 c142 c143 c144 c145 c146 c147 c148 c149 c150 c151 c152 c153 c154 c155 c156 c157 c158 c159 c160 c161 c162 c163 c164 c165 c166 c167 c168 c169 c170 c171 c172 c173 c174 c175 c176 c177 c178 c179 c180 c181 c182 c183 c184 c185 c186 c187 c188 c189 c190 c191 c192 c193 c194 c195 c196 c197 c198 c199 c200 c201 c202 c203 c204 c205 c206 c207 c208 c209 c210 c211 c212 c213 c214 c215 c216 c217 c218 c219 c220 c221 c222 c223 c224 c225 c226 c227 c228 c229 c230 c231 c232 c233 c234 c235 c236 : Value} {K : Act → World → Prop} {R : Ending → World → Prop} (n np B0 rb cb lb c : Nat) (S : PL.MS) (TV : List Value) (rk : List Nat) (w5 : World) (hn0 : 0 < n) (hn : n ≤ 65536) (hnp : np ≤ 65536)
    (hrblt : B0 + 2 < rb) (hrblt2 : rb < cb) (hsz8 : cb + 2 ≤ lb) (HRL : Hid (rk.length = n)) (HMI : Hid (PL.MInv n np S)) (HBEL : Hid (∀ (a : Nat) (v : Value) (k : Nat), TV[a]? = some v → v.ownBlock = some k → k < lb))
    (hm9 : Row w5 (B0 + 1) 32 (mcells n (.slice (some ⟨rb, 0, none⟩) n n) (.slice (some ⟨cb + 1, 0, none⟩) n n) (.map (some cb)) (.slice (some ⟨lb + 1, 0, none⟩) n n) (.slice (some ⟨lb, 0, none⟩) n n) (.slice none 0 0) 0))
    (hR9 : Row w5 rb 3 (nats rk)) (hsz9 : w5.heap.size = lb + 2) (hL9 : Row w5 lb 3 (nats (List.replicate n 0))) (hT9 : TgAt w5 (cb + 2) (cb + 1) cb n c S.T S.ct TV) (hjn0 : JnAt w5 (lb + 1) n 0 (lb + 2) [] (List.replicate n (.slice none 0 0)))
    (HX : Hid (∀ (u19 u20 u21 u22 u23 u24 u25 u26 u27 u28 u29 u30 u31 u32 u33 u34 u35 u36 u37 u38 u39 u40 u41 u42 u43 u44 u45 u46 u47 u48 u49 u50 u51 u52 u53 u54 u55 u56 u57 u58 u59 u60 u61 u62 u63 u64 u65 u66 u67 u68 u69 u70 u71 u72 u73 u74 u75 u76 u77 u78 u79 u80 u81 u82 u83 u84 u85 u86 u87 u88 u89 u90 u91 u92 u93 u94 u95 u96 u97 u98 u99 u100 u101 u102 u103 u104 u105 u106 u107 u108 u109 u110 u111 u112 u113 u114 u115 u116 u117 u118 u119 u120 u121 u122 u123 u124 u125 u126 u127 u128 u129 u130 u131 u132 u133 u134 u135 u136 u137 u138 u139 u140 u141 u142 u143 u144 u145 u146 u147 u148 u149 u150 u151 u152 u153 u154 u155 u156 u157 u158 u159 u160 u161 u162 u163 u164 u165 u166 u167 u168 u169 u170 u171 u172 u173 u174 u175 u176 u177 u178 u179 u180 u181 u182 u183 u184 u185 u186 u187 u188 u189 u190 u191 u192 u193 u194 u195 u196 u197 u198 u199 u200 u201 u202 u203 u204 u205 u206 u207 u208 u209 u210 u211 u212 u213 u214 u215 u216 u217 u218 u219 u220 u221 u222 u223 u224 u225 u226 u227 u228 u229 u230 u231 u232 u233 u234 u235 u236 : Value) (w' : World), Post5 S rk n lb w5 w' → K ⟨List.toArray (c0 :: c1 :: c2 :: c3 :: c4 :: c5 :: c6 :: c7 :: (Value.pointer (some ⟨B0 + 1, 0, none⟩)) :: (Value.int IntKind.i64 (n : Int)) :: c10 :: c11 :: c12 :: c13 :: c14 :: c15 :: c16 :: c17 :: c18 :: u19 :: u20 :: u21 :: u22 :: u23 :: u24 :: u25 :: u26 :: u27 :: u28 :: u29 :: u30 :: u31 :: u32 :: u33 :: u34 :: u35 :: u36 :: u37 :: u38 :: u39 :: u40 :: u41 :: u42 :: u43 :: u44 :: u45 :: u46 :: u47 :: u48 :: u49 :: u50 :: u51 :: u52 :: u53 :: u54 :: u55 :: u56 :: u57 :: u58 :: u59 :: u60 :: u61 :: u62 :: u63 :: u64 :: u65 :: u66 :: u67 :: u68 :: u69 :: u70 :: u71 :: u72 :: u73 :: u74 :: u75 :: u76 :: u77 :: u78 :: u79 :: u80 :: u81 :: u82 :: u83 :: u84 :: u85 :: u86 :: u87 :: u88 :: u89 :: u90 :: u91 :: u92 :: u93 :: u94 :: u95 :: u96 :: u97 :: u98 :: u99 :: u100 :: u101 :: u102 :: u103 :: u104 :: u105 :: u106 :: u107 :: u108 :: u109 :: u110 :: u111 :: u112 :: u113 :: u114 :: u115 :: u116 :: u117 :: u118 :: u119 :: u120 :: u121 :: u122 :: u123 :: u124 :: u125 :: u126 :: u127 :: u128 :: u129 :: u130 :: u131 :: u132 :: u133 :: u134 :: u135 :: u136 :: u137 :: u138 :: u139 :: u140 :: u141 :: u142 :: u143 :: u144 :: u145 :: u146 :: u147 :: u148 :: u149 :: u150 :: u151 :: u152 :: u153 :: u154 :: u155 :: u156 :: u157 :: u158 :: u159 :: u160 :: u161 :: u162 :: u163 :: u164 :: u165 :: u166 :: u167 :: u168 :: u169 :: u170 :: u171 :: u172 :: u173 :: u174 :: u175 :: u176 :: u177 :: u178 :: u179 :: u180 :: u181 :: u182 :: u183 :: u184 :: u185 :: u186 :: u187 :: u188 :: u189 :: u190 :: u191 :: u192 :: u193 :: u194 :: u195 :: u196 :: u197 :: u198 :: u199 :: u200 :: u201 :: u202 :: u203 :: u204 :: u205 :: u206 :: u207 :: u208 :: u209 :: u210 :: u211 :: u212 :: u213 :: u214 :: u215 :: u216 :: u217 :: u218 :: u219 :: u220 :: u221 :: u222 :: u223 :: u224 :: u225 :: u226 :: u227 :: u228 :: u229 :: u230 :: u231 :: u232 :: u233 :: u234 :: u235 :: u236 :: []), []⟩ w')) :
    Code.wp Try.prog (Code.loop (loopNo 4 Try.f15)) (Exit.inBlock 8 (Exit.then K (bodyPost Try.prog Try.f15 R))) ⟨List.toArray (c0 :: c1 :: c2 :: c3 :: c4 :: c5 :: c6 :: c7 :: (Value.pointer (some ⟨B0 + 1, 0, none⟩)) :: (Value.int IntKind.i64 (n : Int)) :: c10 :: c11 :: c12 :: c13 :: c14 :: c15 :: c16 :: c17 :: c18 :: (Value.int IntKind.i64 0) :: c20 :: c21 :: c22 :: c23 :: c24 :: c25 :: c26 :: c27 :: c28 :: c29 :: c30 :: c31 :: c32 :: c33 :: c34 :: c35 :: c36 :: c37 :: c38 :: c39 :: c40 :: c41 :: c42 :: c43 :: c44 :: c45 :: c46 :: c47 :: c48 :: c49 :: c50 :: c51 :: c52 :: c53 :: c54 :: c55 :: c56 :: c57 :: c58 :: c59 :: c60 :: c61 :: c62 :: c63 :: c64 :: c65 :: c66 :: c67 :: c68 :: c69 :: c70 :: c71 :: c72 :: c73 :: c74 :: c75 :: c76 :: c77 :: c78 :: c79 :: c80 :: c81 :: c82 :: c83 :: c84 :: c85 :: c86 :: c87 :: c88 :: c89 :: c90 :: c91 :: c92 :: c93 :: c94 :: c95 :: c96 :: c97 :: c98 :: c99 :: c100 :: c101 :: c102 :: c103 :: c104 :: c105 :: c106 :: c107 :: c108 :: c109 :: c110 :: c111 :: c112 :: c113 :: c114 :: c115 :: c116 :: c117 :: c118 :: c119 :: c120 :: c121 :: c122 :: c123 :: c124 :: c125 :: c126 :: c127 :: c128 :: c129 :: c130 :: c131 :: c132 :: c133 :: c134 :: c135 :: c136 :: c137 :: c138 :: c139 :: c140 :: c141 :: c142 :: c143 :: c144 :: c145 :: c146 :: c147 :: c148 :: c149 :: c150 :: c151 :: c152 :: c153 :: c154 :: c155 :: c156 :: c157 :: c158 :: c159 :: c160 :: c161 :: c162 :: c163 :: c164 :: c165 :: c166 :: c167 :: c168 :: c169 :: c170 :: c171 :: c172 :: c173 :: c174 :: c175 :: c176 :: c177 :: c178 :: c179 :: c180 :: c181 :: c182 :: c183 :: c184 :: c185 :: c186 :: c187 :: c188 :: c189 :: c190 :: c191 :: c192 :: c193 :: c194 :: c195 :: c196 :: c197 :: c198 :: c199 :: c200 :: c201 :: c202 :: c203 :: c204 :: c205 :: c206 :: c207 :: c208 :: c209 :: c210 :: c211 :: c212 :: c213 :: c214 :: c215 :: c216 :: c217 :: c218 :: c219 :: c220 :: c221 :: c222 :: c223 :: c224 :: c225 :: c226 :: c227 :: c228 :: c229 :: c230 :: c231 :: c232 :: c233 :: c234 :: c235 :: c236 :: []), []⟩ w5 := by
  obtain ⟨i3, hi3, hz30, hz31, hz32⟩ := info_parts info3
  have hmm : True := trivial
  have hmk23 : True := trivial
  have hmk28 : True := trivial
  have hmk30 : True := trivial
  conv => arg 2; arg 1; whnf
  go_loopg [19] n (fun g s wr => ∃ (a : Nat) (ls : List Nat) (J : List (List Nat)) (JV : List Value), g = n - a ∧ a ≤ n ∧ s = .int .i64 a ∧ LsOK S.T n a 0 ls ∧ Row wr lb 3 (nats ls) ∧ JnAt wr (lb + 1) n a (lb + 2) J JV ∧ (∀ k, k < a → (PL.tg J k).Perm (flt S.T S.ct k (PL.tg S.T k).length) ∧ (PL.tg J k).Pairwise (fun x y => PL.rankLe rk x y = true)) ∧ Kp (lb + 2) [lb, lb + 1] w5 wr)
  case atStart => exact ⟨0, _, [], _, rfl, by omega, rfl, ls0 _ _, hL9, hjn0, fun k hk => by omega, Kp.refl _ _ _⟩
  case round =>
    clear hjn0 hL9
    rename World => wa
    obtain ⟨a, ls, J, JV, rfl, ha, rfl, hls, hL, hJ, hJP, hKr⟩ := hrel
    by_cases han : a < n
    · have HJP : Hid (∀ k, k < a → (PL.tg J k).Perm (flt S.T S.ct k (PL.tg S.T k).length) ∧ (PL.tg J k).Pairwise (fun x y => PL.rankLe rk x y = true)) := hJP
      clear hJP
      have hTr := hT9.kp hKr hsz9.symm (by simp; omega) (by simp; omega) (fun a v k hv hk => by have := HBEL.out a v k hv hk; simp; omega)
      have haT : a < TV.length := by rw [hTr.len]; exact han
      obtain ⟨tv, htv⟩ : ∃ tv, TV[a]? = some tv := ⟨_, List.getElem?_eq_getElem haT⟩
      have hown := hTr.own a tv htv
      obtain ⟨ao, tc, rfl, _⟩ := owns_form hown
      have tcell := hTr.row.cell htv
      have mc2 := (hm9.kp hKr (by omega) (by simp; omega)).cell (i := 2) rfl
      have hjnil := hJ.nil a (Nat.le_refl _) han
      have hjset : JV.set a (.slice none 0 0) = JV := by
        obtain ⟨h1, h2⟩ := List.getElem?_eq_some_iff.1 hjnil
        rw [← h2, List.set_getElem_self]
      obtain ⟨Ba, hBa⟩ : ∃ Ba, wa.heap.size = Ba := ⟨_, rfl⟩
      have hBl : lb + 2 ≤ Ba := by rw [← hBa, ← hsz9]; exact hKr.size
      have hgr0 : GrAt wa wa (lb + 1) lb a Ba JV (.slice none 0 0) [] := ⟨by rw [hjset]; exact hJ.row, World.ownsRow_nil _ _ _ _, Kp.refl _ _ _⟩
      have hsh := HMI.out.short a
      obtain ⟨tl', htl'⟩ : ∃ tl', (PL.tg S.T a).length = tl' := ⟨_, rfl⟩
      rw [htl'] at hsh tcell hown
      have HTL : Hid ((PL.tg S.T a).length = tl') := htl'
      have HJSET : Hid (JV.set a (.slice none 0 0) = JV) := hjset
      have HLS : Hid (LsOK S.T n a 0 ls) := hls
      have HJ : Hid (JnAt wa (lb + 1) n a (lb + 2) J JV) := hJ
      clear hjnil hjset hls hJ htl' haT
      go_wp2_with fail
      go_loopg [157] tl' (fun g s wi => ∃ (t : Nat) (ls' : List Nat) (v : Value), g = tl' - t ∧ t ≤ tl' ∧ s = .int .i64 t ∧ LsOK S.T n a t ls' ∧ Row wi lb 3 (nats ls') ∧ GrAt wa wi (lb + 1) lb a Ba JV v (flt S.T S.ct a t))
      case atStart => exact ⟨0, ls, _, rfl, by omega, rfl, HLS.out, hL, by simpa [flt] using hgr0⟩
      case round =>
        clear hgr0 hL mc2 tcell
        obtain ⟨t, ls', v, rfl, ht, rfl, hls, hL, hG⟩ := hrel
        have hKi : Kp (lb + 2) [lb, lb + 1] w5 wr := hKr.trans (hG.kp.mono hBl (fun k _ h => h))
        by_cases htt : t < tl'
        · have hTi := hT9.kp hKi hsz9.symm (by simp; omega) (by simp; omega) (fun a v k hv hk => by have := HBEL.out a v k hv hk; simp; omega)
          have hown2 := hTi.own a _ htv
          rw [HTL.out] at hown2
          obtain ⟨g', cap', rest', hge, _, hrow', _, _, _⟩ := owns_to_row hown2 (by omega)
          simp only [Value.slice.injEq, true_and] at hge
          obtain ⟨rfl, rfl⟩ := hge
          obtain ⟨b, hb⟩ : ∃ b, (PL.tg S.T a)[t]? = some b := ⟨_, List.getElem?_eq_getElem (by rw [HTL.out]; exact htt)⟩
          have hbc := hrow'.cell (at_left (nats_at hb))
          have hbn : b < n := (HMI.out.rng a b ((HMI.out.mem a b).1 (List.mem_of_getElem? hb))).2.1
          obtain ⟨x, hx⟩ : ∃ x, ls'[b]? = some x := ⟨_, List.getElem?_eq_getElem (by rw [hls.len]; exact hbn)⟩
          have hxs := hls.small b
          rw [hx] at hxs
          simp only [Option.getD_some] at hxs
          have hxs2 : x ≤ 8589934592 := by omega
          have hxc := hL.cell (nats_at hx)
          have hxf := hL.frozen b
          have mc5 := (hm9.kp hKi (by omega) (by simp; omega)).cell (i := 5) rfl
          have hL' : Row (wr.setCell ⟨lb, b, none⟩ (.int .i64 ((x : Int) + 1))) lb 3 (nats (ls'.set b (x + 1))) := by
            have := hL.set b (.int .i64 ((x : Int) + 1))
            rw [show ((x : Int) + 1) = ((x + 1 : Nat) : Int) by omega, nats_set] at this
            exact this
          have HLS' : Hid (LsOK S.T n a (t + 1) (ls'.set b (x + 1))) := hls.step hb hx
          have hG' := hG.lister (o := b) (by omega) (by omega) (.int .i64 ((x : Int) + 1))
          have HB : Hid ((PL.tg S.T a)[t]? = some b) := hb
          clear hls hL hG hb hx hxs hrow' hown2 hTi hKi hmm hmk23 hmk28 hmk30
          go_upto_region 44 with fail
          generalize wr.setCell ⟨lb, b, none⟩ (.int .i64 ((x : Int) + 1)) = wx at *
          clear hxc hxf mc5 hbc
          have hKx : Kp (lb + 2) [lb, lb + 1] w5 wx := hKr.trans (hG'.kp.mono hBl (fun k _ h => h))
          have hTx := hT9.kp hKx hsz9.symm (by simp; omega) (by simp; omega) (fun a v k hv hk => by have := HBEL.out a v k hv hk; simp; omega)
          have mc3 := (hm9.kp hKx (by omega) (by simp; omega)).cell (i := 3) rfl
          have hlk := hTx.look (p := (b, a)) (by show b ≤ _; omega) (by show a ≤ _; omega)
          unfold kP at hlk
          have hsm := HMI.out.small (b, a)
          obtain ⟨q, hq⟩ : ∃ q, S.ct (b, a) = q := ⟨_, rfl⟩
          rw [hq] at hlk hsm
          have HQ : Hid (S.ct (b, a) = q) := hq
          clear hq hTx
          go_upto_if 174 with fail
          refine wp_last (fun K9 hK9 => ?_)
          have HK9 : Hid _ := hK9
          clear hK9
          go_cut [] (fun wc => ∃ v', Row wc lb 3 (nats (ls'.set b (x + 1))) ∧ GrAt wa wc (lb + 1) lb a Ba JV v' (flt S.T S.ct a (t + 1)))
          case first =>
            by_cases hq0 : q = 0
            · subst hq0
              have HE : Hid (flt S.T S.ct a (t + 1) = flt S.T S.ct a t) := flt_no HB.out HQ.out
              go_wp2
              go_meet
              case rel => exact ⟨v, hL', by rw [HE.out]; exact hG'⟩
            · have hqb : decide ((0 : Int) < (q : Int)) = true := by simp; omega
              have hqb2 : decide (0 < q) = true := by simp; omega
              have hqp : 0 < q := by omega
              have HE : Hid (flt S.T S.ct a (t + 1) = flt S.T S.ct a t ++ [b]) := flt_yes HB.out (by rw [HQ.out]; omega)
              have hfl := flt_len S.T S.ct a t
              have hown0 := hG'.own
              obtain ⟨L, hLdef⟩ : ∃ L, flt S.T S.ct a t = L := ⟨_, rfl⟩
              rw [hLdef] at hown0 hfl HE hG'
              clear hLdef hlk mc3
              obtain ⟨ao, vc, rfl, _⟩ := owns_form hown0
              have mc4 := (hm9.kp hKx (by omega) (by simp; omega)).cell (i := 4) rfl
              have haJ : a < JV.length := by rw [HJ.out.len]; exact han
              have tc := hG'.row.cell (i := a) (List.getElem?_set_self haJ)
              have tf := hG'.row.frozen a
              have hlt1 := hG'.row.lt
              have hBax : Ba ≤ wx.heap.size := by have := hG'.kp.size; omega
              have hne1 : some (lb + 1) ≠ Value.ownBlock (.slice ao L.length vc) := fun e => by have := (owns_block hown0 (lb + 1) e.symm).1; omega
              have hne0 : some (B0 + 1) ≠ Value.ownBlock (.slice ao L.length vc) := fun e => by have := (owns_block hown0 (B0 + 1) e.symm).1; omega
              have hneL : some lb ≠ Value.ownBlock (.slice ao L.length vc) := fun e => by have := (owns_block hown0 lb e.symm).1; omega
              have hlt0 : B0 + 1 < wx.heap.size := by omega
              have mc4a := fun o : Obj => (World.cell?_alloc_lt wx o ⟨B0 + 1, 4, none⟩ (by show B0 + 1 < _; omega)).trans mc4
              have tca := fun o : Obj => (World.cell?_alloc_lt wx o ⟨lb + 1, a, none⟩ hlt1).trans tc
              clear hq0 haJ
              go_wp2
              go_region_law (refine step_append_lies _ (by rfl) _ _ _ (by rfl) Ba 3 i3 (.int .i64 0) 1 8 Try.underlying23 hi3 hz30 hz31 hz32 rfl (by decide) (.slice ao L.length vc) L.length _ (by simp [Act.eval, Act.put]) (by exact hown0.alloc _) ⟨wx.heap.size, 0, none⟩ 1 1 [.int .i64 (b : Int)] (by simp [Act.eval, Act.put]) rfl (one_at (by simp)) (by simp [Value.oneCell']) (by omega) (by unfold maxLen; omega) (by omega) (by simp; omega) (wx.heap.size + 1) (by simp) ?_; intro g cap w1 hown hgrow hat hlt2; have mc21 := (hgrow.cell_far ⟨B0 + 1, 4, none⟩ (by simp; omega) (by exact hne0)).trans ((World.cell?_alloc_lt _ _ _ hlt0).trans mc4); have tc1 := (hgrow.cell_far ⟨lb + 1, a, none⟩ (by simp; omega) (by exact hne1)).trans ((World.cell?_alloc_lt _ _ _ hlt1).trans tc); have tf1 := (hgrow.frozen_far ⟨lb + 1, a, none⟩ (by simp; omega) (by exact hne1)).trans ((World.frozen?_alloc_past _ _ _ hlt1).trans tf))
              all_goals
                have hW : wx.grownBy (wx.alloc (Obj.cells #[Value.int IntKind.i64 b] 3)).drew none := grown_drew (World.grownBy_alloc _ _ _)
                have R := hG'.append (W1 := (wx.alloc (Obj.cells #[Value.int IntKind.i64 b] 3)).drew) (by omega) hBax hW hgrow hown
                have RL := ((hL'.kept hW (by simp)).kept hgrow hneL).setOther (c := lb + 1) (o := a) (by omega) (.slice (some ⟨g, 0, none⟩) (L.length + 1) cap)
                clear hown hgrow hat hlt2 mc21 tc1 tf1 mc4a tca hown0
                go_wp2
                go_meet
                case rel => exact ⟨_, RL, by rw [HE.out]; exact R⟩
          case rest =>
            obtain ⟨v', hL2, hG2⟩ := hcut
            refine HK9.out _ _ ?_
            clear hL' hG' hlk mc3
            go_wp2
            go_roundg (tl' - (t + 1))
            case measure => omega
            case rel => exact ⟨t + 1, ls'.set b (x + 1), v', rfl, by omega, by go_num, HLS'.out, hL2, hG2⟩
        · have e : tl' = t := by omega
          subst e
          have hsh2 : tl' ≤ 65536 := by omega
          have HLS2 : Hid (LsOK S.T n (a + 1) 0 ls') := hls.next HTL.out.symm hsh2
          have hfl2 := flt_len S.T S.ct a tl'
          have mc4 := (hm9.kp hKi (by omega) (by simp; omega)).cell (i := 4) rfl
          have mc1 := (hm9.kp hKi (by omega) (by simp; omega)).cell (i := 1) rfl
          have haJ : a < JV.length := by rw [HJ.out.len]; exact han
          have tc := hG.row.cell (i := a) (List.getElem?_set_self haJ)
          have hRi := hR9.kp hKi (by omega) (by simp; omega)
          have hBw : Ba ≤ wr.heap.size := by have := hG.kp.size; omega
          have hsort := sortRank_owns wr.drew Ba rb v (flt S.T S.ct a tl') rk (by omega) (by rw [HRL.out]; omega) hRi.drew (by omega) hBw (fun x hx => by
            rw [HRL.out]; exact (HMI.out.rng a x ((HMI.out.mem a x).1 (flt_mem hx))).2.1) hG.own
          rw [HRL.out] at hsort
          clear hfl2 haJ hls hmm hmk23 hmk28 hmk30 htt
          go_wp2_with fail
          go_region_with (go_at_call 43; refine hsort.mono ?_; rintro e w' ⟨rfl, L', hperm, hpw, hown', hk'⟩)
          all_goals
            have hkk : Kp Ba [lb, lb + 1] wa w' := hG.kp.drew.trans (hk'.mono (Nat.le_refl _) (by simp))
            have hrj : Row w' (lb + 1) 23 (JV.set a v) := hG.row.drew.kp hk' (by omega) (by simp)
            have hJ2 := HJ.out.next hkk hBa.symm (fun k hk => by simp at hk; omega) han hBl hrj hown'
            have HL2 : Hid (Row w' lb 3 (nats ls')) := hL.drew.kp hk' (by omega) (by simp)
            have HJP2 : Hid (∀ k, k < a + 1 → (PL.tg (J ++ [L']) k).Perm (flt S.T S.ct k (PL.tg S.T k).length) ∧ (PL.tg (J ++ [L']) k).Pairwise (fun x y => PL.rankLe rk x y = true)) := by
              intro k hk
              rw [tg_snoc, HJ.out.jl]
              by_cases e : k = a
              · subst e; rw [if_pos rfl, HTL.out]; exact ⟨hperm, hpw⟩
              · rw [if_neg e]; exact HJP.out k (by omega)
            have HK2 : Hid (Kp (lb + 2) [lb, lb + 1] w5 w') := hKr.trans (hkk.mono hBl (fun k _ h => h))
            clear hperm hpw hown' hk' hkk hrj hsort
            go_wp2
            go_roundg (n - (a + 1))
            case measure => omega
            case rel => exact ⟨a + 1, ls', J ++ [L'], JV.set a v, rfl, by omega, by go_num, HLS2.out, HL2.out, hJ2, HJP2.out, HK2.out⟩
    · have e : n = a := by omega
      subst e
      have HP : Post5 S rk n lb w5 wa := ⟨ls, J, JV, hls, hL, hJ, hJP, hKr⟩
      clear hls hL hJ hJP hKr
      go_wp2
      apply HX.out
      exact HP
end Go.Proofs.Qxb6600010a
