/-
  THE LOOPS OF FnRelinkedWithoutWalkKeepsPaths.
-/
import Derived.Test.Qxb6600010aRlP
import Derived.Deep.RegionHeld3
import Derived.BigQuiet
namespace Go.Proofs.Qxb6600010a
open Go.RowKit
set_option linter.unusedVariables false
set_option linter.unusedSimpArgs false
attribute [local go_sem ↓] Go.wp_at_zero Go.wp_at_succ
set_option maxHeartbeats 20000000 in
set_option maxRecDepth 1000000 in
theorem law10_loop1 {c0 c1 c2 c3 c4 c5 c6 c7 c8 c10 c11 c15 c16 c17 c18 c19 c20 c21 c22 c23 c24 c25 c26 c27 c28 c29 c30 c31 c32 c33 c34 c35 c36 c37 c38 c39 c40 c41 c42 c43 c44 c45 c46 c47 c48 c49 c50 c51 c52 c53 c54 c55 c56 c57 c58 c59 c60 c61 c62 c63 c64 c65 c66 c67 c68 c69 c70 c71 c72 c73 c74 c75 c76 c77 c78 c79 c80 c81 c82 c83 c84 c85 c86 c87 c88 c89 c90 c91 c92 c93 c94 c95 c96 c97 c98 c99 c100 c101 c102 c103 c104 c105 c106 c107 c108 c109 c110 c111 c112 c113 c114 c115 c116 c117 c118 c119 c120 c121 c122 c123 c124 c125 c126 c127 c128 c129 c130 c131 c132 c133 c134 c135 c136 c137 c138 c139 c140 c141 c142 c143 c144 c145 c146 c147 c148 c149 c150 c151 c152 c153 c154 c155 : Value} {K : Act → World → Prop} {R : Ending → World → Prop} (w0 w4 : World) (p n B wb mp : Nat) (d : PD) (b : PB) (MS : List Value) (hn0 : 0 < n) (hn : n ≤ 65536) (HB : Hid (w0.heap.size = B)) (HP : Hid (PsAt w0 p n d b)) (HV : Hid (∀ k, k < n → ((d.P k).hops = 0 ∨ ((d.P k).via < n ∧ (d.P k).prev < n)) ∧ (d.P k).hops ≤ 1000000)) (hwb : B ≤ wb) (HMS : Hid (Row w0 mp 32 MS)) (HM0 : Hid (MS[0]? = some (.int .i64 (n : Int))))
    (h1 : QRow w4 wb n (pre 0 (fun k => nmd d.nm (d.P k)) np0)) (hK : Kp B [] w0 w4)
    (HX : Hid (∀ (u14 u15 u16 u17 u18 u19 u20 u21 u22 u23 u24 u25 u26 u27 u28 u29 u30 u31 u32 u33 u34 u35 u36 u37 u38 u39 u40 u41 u42 u43 u44 u45 u46 u47 u48 u49 u50 u51 u52 u53 u54 u55 u56 u57 u58 u59 u60 u61 u62 u63 u64 u65 u66 u67 u68 u69 u70 u71 u72 u73 u74 u75 u76 u77 u78 u79 u80 u81 u82 u83 u84 u85 u86 u87 u88 u89 u90 u91 u92 u93 u94 u95 u96 u97 u98 u99 u100 u101 u102 u103 u104 u105 u106 u107 u108 u109 u110 u111 u112 u113 u114 u115 u116 u117 u118 u119 u120 u121 u122 u123 u124 u125 u126 u127 u128 u129 u130 u131 u132 u133 u134 u135 u136 u137 u138 u139 u140 u141 u142 u143 u144 u145 u146 u147 u148 u149 u150 u151 u152 u153 u154 u155 : Value) (w' : World), QRow w' wb n (fun k => nmd d.nm (d.P k)) ∧ Kp B [] w0 w' → K ⟨List.toArray (c0 :: c1 :: c2 :: c3 :: c4 :: c5 :: c6 :: c7 :: c8 :: (Value.pointer (some ⟨mp, 0, none⟩)) :: c10 :: c11 :: (Value.pointer (some ⟨p, 0, none⟩)) :: (Value.slice (some ⟨wb, 0, none⟩) n n) :: u14 :: u15 :: u16 :: u17 :: u18 :: u19 :: u20 :: u21 :: u22 :: u23 :: u24 :: u25 :: u26 :: u27 :: u28 :: u29 :: u30 :: u31 :: u32 :: u33 :: u34 :: u35 :: u36 :: u37 :: u38 :: u39 :: u40 :: u41 :: u42 :: u43 :: u44 :: u45 :: u46 :: u47 :: u48 :: u49 :: u50 :: u51 :: u52 :: u53 :: u54 :: u55 :: u56 :: u57 :: u58 :: u59 :: u60 :: u61 :: u62 :: u63 :: u64 :: u65 :: u66 :: u67 :: u68 :: u69 :: u70 :: u71 :: u72 :: u73 :: u74 :: u75 :: u76 :: u77 :: u78 :: u79 :: u80 :: u81 :: u82 :: u83 :: u84 :: u85 :: u86 :: u87 :: u88 :: u89 :: u90 :: u91 :: u92 :: u93 :: u94 :: u95 :: u96 :: u97 :: u98 :: u99 :: u100 :: u101 :: u102 :: u103 :: u104 :: u105 :: u106 :: u107 :: u108 :: u109 :: u110 :: u111 :: u112 :: u113 :: u114 :: u115 :: u116 :: u117 :: u118 :: u119 :: u120 :: u121 :: u122 :: u123 :: u124 :: u125 :: u126 :: u127 :: u128 :: u129 :: u130 :: u131 :: u132 :: u133 :: u134 :: u135 :: u136 :: u137 :: u138 :: u139 :: u140 :: u141 :: u142 :: u143 :: u144 :: u145 :: u146 :: u147 :: u148 :: u149 :: u150 :: u151 :: u152 :: u153 :: u154 :: u155 :: []), []⟩ w')) :
    Code.wp Try.prog (Code.loop (loopNo 0 Try.f10)) (Exit.inBlock 0 (Exit.then K (bodyPost Try.prog Try.f10 R))) ⟨List.toArray (c0 :: c1 :: c2 :: c3 :: c4 :: c5 :: c6 :: c7 :: c8 :: (Value.pointer (some ⟨mp, 0, none⟩)) :: c10 :: c11 :: (Value.pointer (some ⟨p, 0, none⟩)) :: (Value.slice (some ⟨wb, 0, none⟩) n n) :: (Value.int IntKind.i64 (0 : Int)) :: c15 :: c16 :: c17 :: c18 :: c19 :: c20 :: c21 :: c22 :: c23 :: c24 :: c25 :: c26 :: c27 :: c28 :: c29 :: c30 :: c31 :: c32 :: c33 :: c34 :: c35 :: c36 :: c37 :: c38 :: c39 :: c40 :: c41 :: c42 :: c43 :: c44 :: c45 :: c46 :: c47 :: c48 :: c49 :: c50 :: c51 :: c52 :: c53 :: c54 :: c55 :: c56 :: c57 :: c58 :: c59 :: c60 :: c61 :: c62 :: c63 :: c64 :: c65 :: c66 :: c67 :: c68 :: c69 :: c70 :: c71 :: c72 :: c73 :: c74 :: c75 :: c76 :: c77 :: c78 :: c79 :: c80 :: c81 :: c82 :: c83 :: c84 :: c85 :: c86 :: c87 :: c88 :: c89 :: c90 :: c91 :: c92 :: c93 :: c94 :: c95 :: c96 :: c97 :: c98 :: c99 :: c100 :: c101 :: c102 :: c103 :: c104 :: c105 :: c106 :: c107 :: c108 :: c109 :: c110 :: c111 :: c112 :: c113 :: c114 :: c115 :: c116 :: c117 :: c118 :: c119 :: c120 :: c121 :: c122 :: c123 :: c124 :: c125 :: c126 :: c127 :: c128 :: c129 :: c130 :: c131 :: c132 :: c133 :: c134 :: c135 :: c136 :: c137 :: c138 :: c139 :: c140 :: c141 :: c142 :: c143 :: c144 :: c145 :: c146 :: c147 :: c148 :: c149 :: c150 :: c151 :: c152 :: c153 :: c154 :: c155 :: []), []⟩ w4 := by
  conv => arg 2; arg 1; whnf
  have hml : mp < B := by rw [← HB.out]; exact HMS.out.lt
  go_loopg [14] n (fun g s wr => ∃ (k : Nat), g = n - k ∧ k ≤ n ∧ s = .int .i64 k ∧ QRow wr wb n (pre k (fun k => nmd d.nm (d.P k)) np0) ∧ Kp B [] w0 wr)
  case atStart => exact ⟨0, rfl, by omega, rfl, h1, hK⟩
  case round =>
    clear h1 hK
    rename World => wa
    obtain ⟨k, rfl, hk, rfl, h1, hK⟩ := hrel
    have m0 := (HMS.out.kp hK hml (by simp)).cell HM0.out
    by_cases hkn : k < n
    · have hPa := HP.out.kp (by rw [HB.out]; exact hK)
      have hv := HV.out k hkn
      have hc := zznamed_any wa p n k d b hPa hkn hn hv.1 hv.2
      have hla := h1.lt
      have hBw : B ≤ wa.heap.size := by omega
      have H1 : Hid (QRow wa wb n (pre k (fun k => nmd d.nm (d.P k)) np0)) := h1
      obtain ⟨⟨xv, xh, xp⟩, hx⟩ : ∃ x, nmd d.nm (d.P k) = x := ⟨_, rfl⟩
      rw [hx] at hc
      have HX2 : Hid (nmd d.nm (d.P k) = ⟨xv, xh, xp⟩) := hx
      unfold npV at hc
      simp only [] at hc
      clear hPa hv hx h1
      go_wp2_with fail
      refine hc.mono ?_
      rintro e w1 ⟨rfl, hk1'⟩
      clear hc
      have hK1 : Kp B [] w0 w1 := hK.trans (hk1'.mono hBw (by simp))
      have hr := H1.out.kp hk1' hla (by simp)
      obtain ⟨⟨x1, x2, x3⟩, y1, y2, y3⟩ := hr.cells k hkn
      have HZ : Hid (QRow (((w1.setCell ⟨wb, k * 3, none⟩ (.string xv)).setCell ⟨wb, k * 3 + 1, none⟩ (.int .i64 (xh : Int))).setCell ⟨wb, k * 3 + 2, none⟩ (.string xp)) wb n (pre (k + 1) (fun k => nmd d.nm (d.P k)) np0)) := pre_step (hr.set hkn ⟨xv, xh, xp⟩) HX2.out.symm
      have HZK : Hid (Kp B [] w0 (((w1.setCell ⟨wb, k * 3, none⟩ (.string xv)).setCell ⟨wb, k * 3 + 1, none⟩ (.int .i64 (xh : Int))).setCell ⟨wb, k * 3 + 2, none⟩ (.string xp))) := ((hK1.setCell (.inl hwb) _).setCell (.inl hwb) _).setCell (.inl hwb) _
      clear hk1' hr hK1 H1 hla m0
      go_wp2
      go_roundg (n - (k + 1))
      case measure => omega
      case rel => exact ⟨k + 1, rfl, by omega, by go_num, HZ.out, HZK.out⟩
    · have e : n = k := by omega
      subst e
      have HQ : Hid (QRow wa wb n (fun k => nmd d.nm (d.P k))) := h1.congr (fun k hk => by simp [pre, hk])
      clear h1
      go_wp2
      apply HX.out
      exact ⟨HQ.out, hK⟩
set_option maxHeartbeats 20000000 in
set_option maxRecDepth 1000000 in
theorem law10_loop2 {c1 c2 c3 c4 c5 c6 c7 c8 c10 c11 c14 c15 c17 c18 c19 c20 c21 c22 c23 c24 c25 c26 c27 c28 c29 c30 c31 c32 c33 c34 c35 c36 c37 c38 c39 c40 c41 c42 c43 c44 c45 c46 c47 c48 c49 c50 c51 c52 c53 c54 c55 c56 c57 c58 c59 c60 c61 c62 c63 c64 c65 c66 c67 c68 c69 c70 c71 c72 c73 c74 c75 c76 c77 c78 c79 c80 c81 c82 c83 c84 c85 c86 c87 c88 c89 c90 c91 c92 c93 c94 c95 c96 c97 c98 c99 c100 c101 c102 c103 c104 c105 c106 c107 c108 c109 c110 c111 c112 c113 c114 c115 c116 c117 c118 c119 c120 c121 c122 c123 c124 c125 c126 c127 c128 c129 c130 c131 c132 c133 c134 c135 c136 c137 c138 c139 c140 c141 c142 c143 c144 c145 c146 c147 c148 c149 c150 c151 c152 c153 c154 c155 : Value} {K : Act → World → Prop} {R : Ending → World → Prop} (w0 : World) (p n n' B wb nb mp hb : Nat) (d : PD) (b : PB) (MS : List Value) (ss : List ByteArray) (P : Nat → PT) (hd : Nat → Bool) (hn0 : 0 < n) (hn : n ≤ 65536) (HB : Hid (w0.heap.size = B)) (HP : Hid (PsAt w0 p n' d b)) (HKP : Hid (Kept n n' (fun k => ss[k]?.getD ⟨#[]⟩) P hd d)) (HSZ : Hid (∀ k : Nat, (ss[k]?.getD ⟨#[]⟩).size ≤ maxLen)) (HSL : Hid (ss.length = n)) (HN : Hid (Row w0 nb 9 (strs ss))) (HQ : Hid (QRow w0 wb n (fun k => nmd (fun k => ss[k]?.getD ⟨#[]⟩) (P k)))) (HMS : Hid (Row w0 mp 32 MS)) (HM0 : Hid (MS[0]? = some (.int .i64 (n : Int)))) (HM6 : Hid (MS[6]? = some (.slice (some ⟨hb, 0, none⟩) n n))) (HHD : Hid (Row w0 hb 4 (bools (tab n hd))))
    (HX : Hid (∀ (u8 u16 u17 u18 u19 u20 u21 u22 u23 u24 u25 u26 u27 u28 u29 u30 u31 u32 u33 u34 u35 u36 u37 u38 u39 u40 u41 u42 u43 u44 u45 u46 u47 u48 u49 u50 u51 u52 u53 u54 u55 u56 u57 u58 u59 u60 u61 u62 u63 u64 u65 u66 u67 u68 u69 u70 u71 u72 u73 u74 u75 u76 u77 u78 u79 u80 u81 u82 u83 u84 u85 u86 u87 u88 u89 u90 u91 u92 u93 u94 u95 u96 u97 u98 u99 u100 u101 u102 u103 u104 u105 u106 u107 u108 u109 u110 u111 u112 u113 u114 u115 u116 u117 u118 u119 u120 u121 u122 u123 u124 u125 u126 u127 u128 u129 u130 u131 u132 u133 u134 u135 u136 u137 u138 u139 u140 u141 u142 u143 u144 u145 u146 u147 u148 u149 u150 u151 u152 u153 u154 u155 : Value) (w' : World), Kp B [] w0 w' → K ⟨List.toArray ((Value.slice (some ⟨nb, 0, none⟩) n n) :: c1 :: c2 :: c3 :: c4 :: c5 :: c6 :: c7 :: u8 :: (Value.pointer (some ⟨mp, 0, none⟩)) :: c10 :: c11 :: (Value.pointer (some ⟨p, 0, none⟩)) :: (Value.slice (some ⟨wb, 0, none⟩) n n) :: c14 :: c15 :: u16 :: u17 :: u18 :: u19 :: u20 :: u21 :: u22 :: u23 :: u24 :: u25 :: u26 :: u27 :: u28 :: u29 :: u30 :: u31 :: u32 :: u33 :: u34 :: u35 :: u36 :: u37 :: u38 :: u39 :: u40 :: u41 :: u42 :: u43 :: u44 :: u45 :: u46 :: u47 :: u48 :: u49 :: u50 :: u51 :: u52 :: u53 :: u54 :: u55 :: u56 :: u57 :: u58 :: u59 :: u60 :: u61 :: u62 :: u63 :: u64 :: u65 :: u66 :: u67 :: u68 :: u69 :: u70 :: u71 :: u72 :: u73 :: u74 :: u75 :: u76 :: u77 :: u78 :: u79 :: u80 :: u81 :: u82 :: u83 :: u84 :: u85 :: u86 :: u87 :: u88 :: u89 :: u90 :: u91 :: u92 :: u93 :: u94 :: u95 :: u96 :: u97 :: u98 :: u99 :: u100 :: u101 :: u102 :: u103 :: u104 :: u105 :: u106 :: u107 :: u108 :: u109 :: u110 :: u111 :: u112 :: u113 :: u114 :: u115 :: u116 :: u117 :: u118 :: u119 :: u120 :: u121 :: u122 :: u123 :: u124 :: u125 :: u126 :: u127 :: u128 :: u129 :: u130 :: u131 :: u132 :: u133 :: u134 :: u135 :: u136 :: u137 :: u138 :: u139 :: u140 :: u141 :: u142 :: u143 :: u144 :: u145 :: u146 :: u147 :: u148 :: u149 :: u150 :: u151 :: u152 :: u153 :: u154 :: u155 :: []), []⟩ w')) :
    Code.wp Try.prog (Code.loop (loopNo 1 Try.f10)) (Exit.inBlock 2 (Exit.then K (bodyPost Try.prog Try.f10 R))) ⟨List.toArray ((Value.slice (some ⟨nb, 0, none⟩) n n) :: c1 :: c2 :: c3 :: c4 :: c5 :: c6 :: c7 :: c8 :: (Value.pointer (some ⟨mp, 0, none⟩)) :: c10 :: c11 :: (Value.pointer (some ⟨p, 0, none⟩)) :: (Value.slice (some ⟨wb, 0, none⟩) n n) :: c14 :: c15 :: (Value.int IntKind.i64 (0 : Int)) :: c17 :: c18 :: c19 :: c20 :: c21 :: c22 :: c23 :: c24 :: c25 :: c26 :: c27 :: c28 :: c29 :: c30 :: c31 :: c32 :: c33 :: c34 :: c35 :: c36 :: c37 :: c38 :: c39 :: c40 :: c41 :: c42 :: c43 :: c44 :: c45 :: c46 :: c47 :: c48 :: c49 :: c50 :: c51 :: c52 :: c53 :: c54 :: c55 :: c56 :: c57 :: c58 :: c59 :: c60 :: c61 :: c62 :: c63 :: c64 :: c65 :: c66 :: c67 :: c68 :: c69 :: c70 :: c71 :: c72 :: c73 :: c74 :: c75 :: c76 :: c77 :: c78 :: c79 :: c80 :: c81 :: c82 :: c83 :: c84 :: c85 :: c86 :: c87 :: c88 :: c89 :: c90 :: c91 :: c92 :: c93 :: c94 :: c95 :: c96 :: c97 :: c98 :: c99 :: c100 :: c101 :: c102 :: c103 :: c104 :: c105 :: c106 :: c107 :: c108 :: c109 :: c110 :: c111 :: c112 :: c113 :: c114 :: c115 :: c116 :: c117 :: c118 :: c119 :: c120 :: c121 :: c122 :: c123 :: c124 :: c125 :: c126 :: c127 :: c128 :: c129 :: c130 :: c131 :: c132 :: c133 :: c134 :: c135 :: c136 :: c137 :: c138 :: c139 :: c140 :: c141 :: c142 :: c143 :: c144 :: c145 :: c146 :: c147 :: c148 :: c149 :: c150 :: c151 :: c152 :: c153 :: c154 :: c155 :: []), []⟩ w0 := by
  conv => arg 2; arg 1; whnf
  have hml : mp < B := by rw [← HB.out]; exact HMS.out.lt
  have hnl : nb < B := by rw [← HB.out]; exact HN.out.lt
  have hwl : wb < B := by rw [← HB.out]; exact HQ.out.lt
  have hhl : hb < B := by rw [← HB.out]; exact HHD.out.lt
  go_loopg [16] n (fun g s wr => ∃ (k : Nat), g = n - k ∧ k ≤ n ∧ s = .int .i64 k ∧ Kp B [] w0 wr)
  case atStart => exact ⟨0, rfl, by omega, rfl, Kp.refl _ _ _⟩
  case round =>
    rename World => wa
    obtain ⟨k, rfl, hk, rfl, hK⟩ := hrel
    have hms := HMS.out.kp hK hml (by simp)
    have m0 := hms.cell HM0.out
    by_cases hkn : k < n
    · have hPa := HP.out.kp (by rw [HB.out]; exact hK)
      have m6 := hms.cell HM6.out
      obtain ⟨s, hs⟩ : ∃ s, ss[k]? = some s := ⟨_, List.getElem?_eq_getElem (by rw [HSL.out]; exact hkn)⟩
      have hsz := HSZ.out k
      have hs' : ss[k]?.getD ⟨#[]⟩ = s := by rw [hs]; rfl
      rw [hs'] at hsz
      have n1 := (HN.out.kp hK hnl (by simp)).cell (strs_at hs)
      have h1 := (HHD.out.kp hK hhl (by simp)).cell (i := k) (v := .bool (hd k)) (bools_at (tab_at n k hd hkn))
      have hc := number_any wa p n' s d b hPa hsz
      have HS := hid_mk hs'
      have hBw : B ≤ wa.heap.size := by rw [← HB.out]; exact hK.size
      clear hPa hs hs' hms
      by_cases hh : hd k = true
      · obtain ⟨j, hj, hnum, hnm, hnp, hv, hhp⟩ := HKP.out.yes k hkn hh
        have hn' := HKP.out.le
        rw [HS.out] at hnum hnm
        rw [hnum] at hc
        rw [hh] at h1
        simp only [Option.getD_some, Option.isSome_some] at hc
        have hnp' : nmd d.nm (d.P j) = nmd (fun k => ss[k]?.getD ⟨#[]⟩) (P k) := hnp
        obtain ⟨⟨xv, xh, xp⟩, hx⟩ : ∃ x, nmd (fun k => ss[k]?.getD ⟨#[]⟩) (P k) = x := ⟨_, rfl⟩
        have HMK : Hid (∀ W, Kp B [] w0 W → W.cell? ⟨nb, k, none⟩ = some (.string s) ∧ W.cell? ⟨wb, k * 3, none⟩ = some (.string xv) ∧ W.cell? ⟨wb, k * 3 + 1, none⟩ = some (.int .i64 (xh : Int)) ∧ W.cell? ⟨wb, k * 3 + 2, none⟩ = some (.string xp) ∧ Kp B [] w0 W) := by
          intro W hW
          obtain ⟨⟨x1, x2, x3⟩, _⟩ := (HQ.out.kp hW hwl (by simp)).cells k hkn
          rw [hx] at x1 x2 x3
          exact ⟨(HN.out.kp hW hnl (by simp)).cell (strs_at (by rw [List.getElem?_eq_getElem (by rw [HSL.out]; exact hkn)] ; exact congrArg some (by have := HS.out; rw [List.getElem?_eq_getElem (by rw [HSL.out]; exact hkn)] at this; exact this))), x1, x2, x3, hW⟩
        have HC1 : Hid (∀ W, Kp B [] w0 W → Calls Try.prog 28 #[.pointer (some ⟨p, 0, none⟩), .int .i64 (j : Int)] W fun e w' => e = .returned (.string s) ∧ Kp W.heap.size [] W w') := by
          intro W hW
          have := name_any W p n' j d b (HP.out.kp (by rw [HB.out]; exact hW)) hj (by omega)
          rw [hnm] at this
          exact this.mono (fun e w' h => ⟨h.1, by rw [h.2]; exact Kp.refl _ _ _⟩)
        have HC2 : Hid (∀ W, Kp B [] w0 W → Calls Try.prog 22 #[.pointer (some ⟨p, 0, none⟩), .int .i64 (j : Int)] W fun e w' => e = .returned (.agg #[.string xv, .int .i64 (xh : Int), .string xp]) ∧ Kp W.heap.size [] W w') := by
          intro W hW
          have := zznamed_any W p n' j d b (HP.out.kp (by rw [HB.out]; exact hW)) hj (by omega) hv hhp
          rw [hnp', hx] at this
          exact this
        have heq := equal45 xv xh xp xv xh xp
        rw [npNe_self] at heq
        clear hnum hnm hnp hnp' hx hv hhp
        go_wp2_with fail
        refine hc.mono ?_
        rintro e w2 ⟨rfl, hw2⟩
        rw [hw2]
        clear hc hw2
        go_upto_region 29 with fail
        clear m0 m6 h1 n1
        obtain ⟨n1, x1, x2, x3, _⟩ := HMK.out wa hK
        have hB0 : B ≤ w0.heap.size := by rw [HB.out]; exact Nat.le_refl _
        go_region_held3 (fun w' => w'.cell? ⟨nb, k, none⟩ = some (.string s) ∧ w'.cell? ⟨wb, k * 3, none⟩ = some (.string xv) ∧ w'.cell? ⟨wb, k * 3 + 1, none⟩ = some (.int .i64 (xh : Int)) ∧ w'.cell? ⟨wb, k * 3 + 2, none⟩ = some (.string xp) ∧ Kp B [] w0 w') (first | exact HMK.out _ hK.drew | (go_split_ands; refine HMK.out _ ?_; assumption) | (go_split_ands; exact HMK.out _ (Kp.step hB0 (by assumption) (by assumption)))) (first | (go_at_call 28; refine (HC1.out _ (by go_split_ands; assumption)).mono ?_; rintro e wc1 ⟨rfl, hkA⟩) | (go_at_call 22; refine (HC2.out _ (by go_split_ands; assumption)).mono ?_; rintro e wc2 ⟨rfl, hkB⟩))
        all_goals
          have HK2 : Hid (Kp B [] w0 wc2) := by
            show Kp B [] w0 wc2
            go_split_ands; assumption
          go_wp2
          go_roundg (n - (k + 1))
          case measure => omega
          case rel => exact ⟨k + 1, rfl, by omega, by go_num, HK2.out⟩
      · have hh' : hd k = false := by simpa using hh
        have hnum := HKP.out.no k hkn hh'
        rw [HS.out] at hnum
        rw [hnum] at hc
        rw [hh'] at h1
        simp only [Option.getD_none, Option.isSome_none] at hc
        clear hnum hh
        go_wp2_with fail
        refine hc.mono ?_
        rintro e w2 ⟨rfl, hw2⟩
        rw [hw2]
        clear hc hw2
        go_wp2
        go_roundg (n - (k + 1))
        case measure => omega
        case rel => exact ⟨k + 1, rfl, by omega, by go_num, hK⟩
    · have e : n = k := by omega
      subst e
      clear hms
      go_wp2
      apply HX.out
      exact hK
end Go.Proofs.Qxb6600010a
