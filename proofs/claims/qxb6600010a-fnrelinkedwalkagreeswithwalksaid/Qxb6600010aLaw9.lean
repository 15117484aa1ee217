/-
  THE LAW FnRelinkedWalkAgreesWithWalk: the walk and the row.
-/
import Derived.Test.Qxb6600010aBuild
import Derived.Test.Qxb6600010aLaw9P
import Derived.Test.Qxb6600010aFacts
import Derived.SliceStrings
import Derived.ProofKit
import Derived.OpenShut
import Derived.ShutString
import Derived.ChangeOld
import Derived.ChangeSlices
import Derived.Below
namespace Go.Proofs.Qxb6600010a.fnRelinkedWalkAgreesWithWalk
open Go.ChangeShapes Go.WideShapes Go.ChangeAt Go.RowKit
open Go.ChangeMaps (open_string shut_string)
set_option linter.unusedVariables false
set_option linter.unusedSimpArgs false
attribute [local go_sem ↓] Go.wp_at_zero Go.wp_at_succ
set_option maxHeartbeats 20000000 in
set_option maxRecDepth 100000 in
theorem walk (ao : Option Addr) (n c : Nat) (a1 : Option Addr) (n1 c1 : Nat) (a2 : Option Addr) (n2 c2 : Nat) (a3 : Option Addr) (n3 c3 : Nat) (xc : Int) (ss : List ByteArray) (xs1 xs2 xs3 : List Int) (w : World) (hn : n ≤ maxLen) (h1 : n1 ≤ maxLen) (h2 : n2 ≤ maxLen) (h3 : n3 ≤ maxLen) (hs : ∀ (i : Nat) (h : i < ss.length), ss[i].size ≤ maxLen)
    (h : ArgStrs w ao n ss) (g1 : ArgInts w a1 n1 xs1) (g2 : ArgInts w a2 n2 xs2) (g3 : ArgInts w a3 n3 xs3) (hxc : (Lit.int .i64 xc).wf = true) :
    Calls Try.prog 9 #[.slice ao n c, .slice a1 n1 c1, .slice a2 n2 c2, .slice a3 n3 c3, .int .i64 xc] w fun e w' => e = .returned (.bool true) ∧ Below w.heap.size w w' := by
  have cb := bound38_any ao n c a1 n1 c1 a2 n2 c2 a3 n3 c3 xc ss w hn h1 h2 h3 hs h
  have HH : Hid (ArgStrs w ao n ss) := h
  have G1 : Hid (ArgInts w a1 n1 xs1) := g1
  have G2 : Hid (ArgInts w a2 n2 xs2) := g2
  have G3 : Hid (ArgInts w a3 n3 xs3) := g3
  have HSZ : Hid (∀ k : Nat, (ss[k]?.getD ⟨#[]⟩).size ≤ maxLen) := by
    intro k
    by_cases hk : k < ss.length
    · rw [List.getElem?_eq_getElem hk]; exact hs k hk
    · rw [List.getElem?_eq_none (by omega)]; exact Nat.zero_le _
  unfold maxLen at hn h1 h2 h3
  clear hs h g1 g2 g3
  go_enter Try.func9, Try.ntmps9
  go_wp2_with fail
  refine cb.mono ?_
  rintro e w' ⟨r, rfl, hr, rfl⟩
  clear cb
  cases r with
  | false =>
    go_wp2
    go_ret
    exact ⟨rfl, Below.refl _ _⟩
  | true =>
    have hr' := hr rfl
    clear hr
    by_cases hq : n ≤ 65536 ∧ n1 ≤ 65536 ∧ n2 ≤ 65536 ∧ n3 ≤ 65536
    · obtain ⟨q0, q1, q2, q3⟩ := hq
      have d0 : decide ((65536 : Int) < (n : Int)) = false := by simp <;> omega
      have d1 : decide ((65536 : Int) < (n1 : Int)) = false := by simp <;> omega
      have d2 : decide ((65536 : Int) < (n2 : Int)) = false := by simp <;> omega
      have d3 : decide ((65536 : Int) < (n3 : Int)) = false := by simp <;> omega
      have c12 := bytes_any ao n c (n1 + n2 + n3) ss w (by omega) q0 (by omega) HH.out
      rw [Int.natCast_add, Int.natCast_add] at c12
      go_wp2_with fail
      refine c12.mono ?_
      rintro e w' ⟨r, rfl, rfl⟩
      clear c12
      by_cases hrr : 1048576 < r
      · have e1 : decide ((1048576 : Int) < r) = true := by simp <;> omega
        go_wp2
        go_ret
        exact ⟨rfl, Below.refl _ _⟩
      · have e1 : decide ((1048576 : Int) < r) = false := by simp <;> omega
        by_cases hn0 : n = 0
        · subst hn0
          go_wp2
          go_ret
          exact ⟨rfl, Below.refl _ _⟩
        · have e2 : ((n : Int) == 0) = false := by rw [beq_eq_false_iff_ne]; omega
          have hnp : 0 < n := by omega
          clear hn0 hrr
          go_wp2_with fail
          refine (cloneStrs_any ao n c ss w q0 hnp HH.out).mono ?_
          rintro e w1 ⟨rfl, hN1, hB1⟩
          have hBB1 : Below w.heap.size w w1 := hB1
          go_wp2_with fail
          refine (cloneInts_any a1 n1 c1 xs1 w1 q1 (G1.out.below hBB1)).mono ?_
          rintro e w2 ⟨v1, rfl, hI1, hB2⟩
          have hBB2 : Below w.heap.size w w2 := hBB1.trans (hB2.mono hBB1.size)
          go_wp2_with fail
          refine (cloneInts_any a2 n2 c2 xs2 w2 q2 (G2.out.below hBB2)).mono ?_
          rintro e w3 ⟨v2, rfl, hI2, hB3⟩
          have hBB3 : Below w.heap.size w w3 := hBB2.trans (hB3.mono hBB2.size)
          go_wp2_with fail
          refine (cloneInts_any a3 n3 c3 xs3 w3 q3 (G3.out.below hBB3)).mono ?_
          rintro e w4 ⟨v3, rfl, hI3, hB4⟩
          have hBB4 : Below w.heap.size w w4 := hBB3.trans (hB4.mono hBB3.size)
          have hl0 : ss.length = n := HH.out.len
          have hl1 : xs1.length = n1 := G1.out.len
          have hl2 : xs2.length = n2 := G2.out.len
          have hl3 : xs3.length = n3 := G3.out.len
          obtain ⟨nb, hnb⟩ : ∃ nb, w.heap.size = nb := ⟨_, rfl⟩
          rw [hnb] at hN1
          have hb2L : Below w1.heap.size w1 w4 := ((hB2.trans (hB3.mono (hB2.size))).trans (hB4.mono (Nat.le_trans (hB2.size) hB3.size)))
          have hN4 : Row w4 nb 9 (strs ss) := hN1.below hb2L hN1.lt
          have hJ1 := ((hI1.below hB3).below hB4)
          have hJ2 := (hI2.below hB4)
          have hJ3 := hI3
          have HNB : Hid (w.heap.size = nb) := hnb
          have HB14 : Hid (Below w.heap.size w w4) := hBB4
          have HN4 : Hid (Row w4 nb 9 (strs ss)) := hN4
          have HI3 : Hid (IntsIn w4 v3 xs3) := hJ3
          rw [hnb]
          have hbd := build_any w4 nb ss v1 v2 xs1 xs2 n hnp q0 hl0 hN4 hJ1 hJ2 (by omega) (by omega)
          have HL : Hid (ss.length = n ∧ xs3.length = n3) := ⟨hl0, hl3⟩
          clear hN1 hN4 hb2L hnb HH d0 e1 e2 hr' hI1 hJ1 G1 d1 hl1 hI2 hJ2 G2 d2 hl2 hI3 hJ3 G3 d3 hl3 hl0 hB1 hBB1 hB2 hBB2 hB3 hBB3 hB4 hBB4
          go_wp2_with fail
          refine hbd.mono ?_
          rintro e w5 hpost
          clear hbd
          rcases hpost with ⟨rfl, hK5⟩ | ⟨mb, m, rfl, hM, hA, hK5⟩
          · have HB5 : Hid (Below w.heap.size w w5) := HB14.out.trans ((Kp.below hK5).mono HB14.out.size)
            clear hK5
            go_wp2
            go_ret
            exact ⟨rfl, HB5.out.trans ((Below.refl _ _).alloc (HB5.out.size) _)⟩
          · unfold meshV slc
            have HM : Hid (PL.PMesh ss n m) := hM
            have HA : Hid (MeshAt w5 n mb m) := hA
            have HK5 : Hid (Kp w4.heap.size [] w4 w5) := hK5
            clear hM hA hK5
            go_upto_region 14 with fail
            obtain ⟨mp, hmp⟩ : ∃ mp, w5.heap.size = mp := ⟨_, rfl⟩
            have hms := row_new w5 [.int .i64 (n : Int), .slice (some ⟨mb.rb, 0, none⟩) n n, .slice (some ⟨mb.tb, 0, none⟩) n n, .map (some mb.cb), .slice (some ⟨mb.jb, 0, none⟩) n n, .slice (some ⟨mb.lb, 0, none⟩) n n, .slice (some ⟨mb.hb, 0, none⟩) n n, .int .i64 (PL.hc m.S.T m.ls n : Int)] 32
            have hK6 : Kp mp [] w5 (w5.alloc (Obj.cells #[.int .i64 (n : Int), .slice (some ⟨mb.rb, 0, none⟩) n n, .slice (some ⟨mb.tb, 0, none⟩) n n, .map (some mb.cb), .slice (some ⟨mb.jb, 0, none⟩) n n, .slice (some ⟨mb.lb, 0, none⟩) n n, .slice (some ⟨mb.hb, 0, none⟩) n n, .int .i64 (PL.hc m.S.T m.ls n : Int)] 32)) := by rw [← hmp]; exact (Kp.refl _ _ _).alloc (Nat.le_refl _) _
            rw [hmp] at hms ⊢
            have HMP : Hid (w5.heap.size = mp) := hmp
            have hs6 : (w5.alloc (Obj.cells #[.int .i64 (n : Int), .slice (some ⟨mb.rb, 0, none⟩) n n, .slice (some ⟨mb.tb, 0, none⟩) n n, .map (some mb.cb), .slice (some ⟨mb.jb, 0, none⟩) n n, .slice (some ⟨mb.lb, 0, none⟩) n n, .slice (some ⟨mb.hb, 0, none⟩) n n, .int .i64 (PL.hc m.S.T m.ls n : Int)] 32)).heap.size = mp + 1 := by rw [World.size_alloc, hmp]
            obtain ⟨hc, hhc⟩ : ∃ hc, PL.hc m.S.T m.ls n = hc := ⟨_, rfl⟩
            have HHC := hid_mk hhc
            rw [hhc] at hms hK6 hs6 ⊢
            generalize w5.alloc (Obj.cells #[.int .i64 (n : Int), .slice (some ⟨mb.rb, 0, none⟩) n n, .slice (some ⟨mb.tb, 0, none⟩) n n, .map (some mb.cb), .slice (some ⟨mb.jb, 0, none⟩) n n, .slice (some ⟨mb.lb, 0, none⟩) n n, .slice (some ⟨mb.hb, 0, none⟩) n n, .int .i64 (hc : Int)] 32) = w6 at *
            have hsz4 : w4.heap.size ≤ mp := by rw [← hmp]; exact HK5.out.size
            have hK46 : Kp w4.heap.size [] w4 w6 := HK5.out.trans (hK6.mono hsz4 (by simp))
            have hA6 : MeshAt w6 n mb m := HA.out.kp (by rw [hmp]; exact hK6)
            have hN6 : Row w6 nb 9 (strs ss) := HN4.out.kp hK46 HN4.out.lt (by simp)
            have HB6 : Hid (Below w.heap.size w w6) := HB14.out.trans ((Kp.below hK46).mono HB14.out.size)
            have hI6 : IntsIn w6 v3 xs3 := HI3.out.below (Kp.below hK46)
            have HI6 := hid_mk hI6
            have hnw : w.heap.size ≤ mp := Nat.le_trans HB14.out.size hsz4
            have HA6 := hid_mk hA6
            have HN6 := hid_mk hN6
            have HMS : Hid (Row w6 mp 32 [.int .i64 (n : Int), .slice (some ⟨mb.rb, 0, none⟩) n n, .slice (some ⟨mb.tb, 0, none⟩) n n, .map (some mb.cb), .slice (some ⟨mb.jb, 0, none⟩) n n, .slice (some ⟨mb.lb, 0, none⟩) n n, .slice (some ⟨mb.hb, 0, none⟩) n n, .int .i64 (hc : Int)]) := hms
            have m0 := hms.cell (i := 0) rfl
            have m1 := hms.cell (i := 1) rfl
            have m2 := hms.cell (i := 2) rfl
            have m3 := hms.cell (i := 3) rfl
            have m4 := hms.cell (i := 4) rfl
            have m5 := hms.cell (i := 5) rfl
            have m6 := hms.cell (i := 6) rfl
            have m7 := hms.cell (i := 7) rfl
            have HS6 : Hid (w6.heap.size = mp + 1) := hs6
            have hmb6 := hA6
            clear hms hK6 hs6 hmp hK46 hA6 hN6 HA HN4 HK5 HB14 hmb6 hhc
            clear hI6 HI3
            obtain ⟨cc, hcc⟩ : ∃ cc, PL.md xc n = cc := ⟨_, rfl⟩
            have hcn : cc < n := by rw [← hcc]; exact PL.md_lt xc n hnp
            have hmod := mod_any xc n w6 hnp (by omega)
            rw [hcc] at hmod
            have hst := state_any w6 n ss nb m mb v3 xs3 (cc : Int) hc HM.out HA6.out HN6.out HI6.out (by rw [HL.out.2]; omega) (by omega) (by omega) HSZ.out
            unfold meshV slc at hst
            clear hcc
            go_wp2_with fail
            refine hmod.mono ?_
            rintro e w' ⟨rfl, hw'⟩
            rw [hw']
            clear hmod hw'
            go_wp2_with fail
            refine hst.mono ?_
            rintro e w7 ⟨p, b, rfl, hPs, hK7, hFr⟩
            clear hst m0 m1 m2 m3 m4 m5 m6 m7
            have hK7' := hK7
            rw [HS6.out] at hK7 hFr
            have hst2 := state_any w7 n ss nb m mb v3 xs3 (cc : Int) hc HM.out (HA6.out.kp hK7') (HN6.out.kp hK7' HN6.out.lt (by simp)) (HI6.out.below (Kp.below hK7')) (by rw [HL.out.2]; omega) (by omega) (by omega) HSZ.out
            unfold meshV slc at hst2
            have hsin := s_in hPs hFr
            have HFR := hid_mk hFr
            have HK7 := hid_mk hK7
            have HSIN := hid_mk hsin
            have HPS := hid_mk hPs
            have hms7 := HMS.out.kp hK7 (by omega) (by simp)
            have m0 := hms7.cell (i := 0) rfl
            have m1 := hms7.cell (i := 1) rfl
            have m2 := hms7.cell (i := 2) rfl
            have m3 := hms7.cell (i := 3) rfl
            have m4 := hms7.cell (i := 4) rfl
            have m5 := hms7.cell (i := 5) rfl
            have m6 := hms7.cell (i := 6) rfl
            have m7 := hms7.cell (i := 7) rfl
            have hs7 : mp + 1 ≤ w7.heap.size := by rw [← HS6.out]; exact hK7.size
            have hpl7 : p < w7.heap.size := hPs.st.lt
            clear hPs hFr hK7 hK7' hsin hms7
            go_wp2_with fail
            refine hst2.mono ?_
            rintro e w8 ⟨p2, b2, rfl, hPs2, hK8, hFr2⟩
            clear hst2 m0 m1 m2 m3 m4 m5 m6 m7
            have hs8 : w7.heap.size ≤ w8.heap.size := hK8.size
            have hrk := relink_walk HM.out (HPS.out.kp hK8) HFR.out HSIN.out hs8 HSZ.out hcn
            rw [HHC.out] at hrk
            have HPS2 := hid_mk hPs2
            have HFR2 := hid_mk hFr2
            have hpp2 := hFr2.pp
            have hpl8 : p2 < w8.heap.size := hPs2.st.lt
            have HK68 : Hid (Kp (mp + 1) [] w6 w8) := HK7.out.trans (hK8.mono hs7 (by simp))
            clear hPs2 hFr2 hK8
            go_wp2_with fail
            refine hrk.mono ?_
            rintro e w9 ⟨ca0, rfl, C, b9, hperm, hstr, hown, hP9, hK9⟩
            clear hrk
            have hPs9 := HPS2.out.kpLow HFR2.out hK9 (fun x hx => (HSIN.out x hx).2)
            have hwk := state_walk HM.out hPs9 HFR2.out
            have HK69 : Hid (Kp (mp + 1) [] w6 w9) := HK68.out.trans (kp_out hK9 (by omega) (fun x hx => (HSIN.out x hx).1))
            have HST9 := hid_mk hPs9.st
            have hs9 : w8.heap.size ≤ w9.heap.size := hK9.size
            have HP9 := hid_mk hP9
            have HOWN := hid_mk hown
            have HPERM := hid_mk hperm
            have HSTR := hid_mk hstr
            clear hPs9 hP9 hK9 hown hperm hstr
            go_wp2_with fail
            refine hwk.mono ?_
            rintro e w10 ⟨cb0, nx, qu, pb, pc, C2, rfl, hP10, hpb, hperm2, hsrt2, hown2, hK10⟩
            clear hwk
            have hCC : C2 = C := (chg_one HPERM.out hperm2 HSTR.out (chg_strict hperm2 (difs_pw (pd_apart HM.out xs3 (cc : Int))) hsrt2)).symm
            rw [hCC] at hown2
            have hPa10 := HP9.out.kpTop HST9.out (by omega) hK10
            have hown1 := owns_kp HOWN.out hK10 (fun k hk => by
              obtain ⟨g1, g2, _⟩ := owns_block HOWN.out k hk
              exact ⟨g2, by simp; omega⟩)
            have hlen : C.length ≤ n := by rw [HPERM.out.length_eq]; exact chD_len _ _ _ _ _
            obtain ⟨ca, ccap, cl, hcl, rfl⟩ : ∃ ca cc cl, C.length = cl ∧ ca0 = .slice ca cl cc := by
              rcases hown1.2 with ⟨rfl, h0⟩ | ⟨g, cap, cur, hv, _⟩
              · exact ⟨none, 0, 0, h0, rfl⟩
              · exact ⟨_, _, _, rfl, hv⟩
            rw [hcl] at hown1 hown2 hlen
            obtain ⟨cb, ccap2, rfl⟩ : ∃ cb cc, cb0 = .slice cb cl cc := by
              rcases hown2.2 with ⟨rfl, h0⟩ | ⟨g, cap, cur, hv, _⟩
              · exact ⟨none, 0, by rw [h0]⟩
              · exact ⟨_, _, hv⟩
            have HK610 : Hid (Kp (mp + 1) [] w6 w10) := HK69.out.trans (hK10.mono (by omega) (fun q h1 h2 => by simp at h2; omega))
            have HP10 : Hid (PsAt w10 p2 n (pdW n ss m xs3 (cc : Int)) { b2 with pb := pb, pc := pc, nx := nx, qu := qu }) := hP10
            have HPA10 := hid_mk hPa10
            have HO1 := hid_mk hown1
            have HO2 := hid_mk hown2
            have HCL := hid_mk hcl
            clear hCC hP10 hpb hperm2 hsrt2 hown2 hK10 hPa10 hown1 hcl HPERM HSTR HOWN HP9 HST9 HK69 HPS HPS2 HFR HFR2 HSIN HK7 HK68
            go_wp2_with fail
            obtain ⟨B10, hB10⟩ : ∃ B10, w10.heap.size = B10 := ⟨_, rfl⟩
            refine law9_loop1 w10 B10 _ _ cl ccap ccap2 ca cb C (by omega) hB10 HCL HO1 HO2 (fun u10 u18 u19 u20 u21 u22 u23 u24 u25 u26 u27 u28 u29 u30 u31 u32 u33 u34 u35 u36 u37 u38 u39 u40 u41 u42 u43 u44 u45 u46 u47 u48 u49 u50 u51 u52 u53 u54 u55 u56 u57 u58 u59 u60 u61 u62 u63 u64 u65 u66 u67 u68 u69 u70 u71 u72 u73 u74 u75 u76 u77 u78 u79 u80 u81 u82 u83 u84 u85 u86 u87 u88 u89 u90 u91 u92 u93 u94 u95 u96 u97 u98 u99 u100 u101 u102 u103 u104 u105 u106 u107 u108 u109 u110 u111 u112 u113 u114 u115 u116 u117 u118 u119 u120 u121 u122 u123 u124 u125 u126 u127 u128 u129 u130 u131 u132 u133 u134 u135 u136 u137 u138 u139 u140 u141 u142 u143 u144 u145 u146 u147 u148 u149 u150 u151 u152 u153 u154 u155 u156 u157 u158 u159 u160 u161 u162 u163 u164 u165 u166 u167 u168 u169 u170 u171 u172 u173 u174 u175 u176 w11 hK11 => ?_)
            have hK11' : Kp w10.heap.size [] w10 w11 := by rw [hB10]; exact hK11
            have h610 : mp + 1 ≤ w10.heap.size := by rw [← HS6.out]; exact HK610.out.size
            have HP11 := hid_mk (HP10.out.kp hK11')
            have HPA11 := hid_mk (HPA10.out.kp hK11')
            have HK611 : Hid (Kp (mp + 1) [] w6 w11) := HK610.out.trans (hK11'.mono h610 (by simp))
            have hkept := kept_of HM.out (good_rl HM.out xs3 hcn)
            rw [HHC.out] at hkept
            have HKEPT : Hid (Kept n (rlN n hc cc (pdW n ss m xs3 (cc : Int))) (fun k => ss[k]?.getD ⟨#[]⟩) (PL.bfs n (fun k => PL.tg m.J k)) (PL.hdB m.S.T m.ls) (rlD n hc cc (pdW n ss m xs3 (cc : Int)))) := hkept
            have HFIN : Hid (PL.BFin n (fun k => PL.tg m.J k) (PL.rkf m) (PL.bfs n (fun k => PL.tg m.J k))) := PL.bfs_fin (PL.gr_of HM.out)
            generalize rlN n hc cc (pdW n ss m xs3 (cc : Int)) = n' at *
            generalize rlD n hc cc (pdW n ss m xs3 (cc : Int)) = d' at *
            clear hK11 hK11' hB10 h610 hkept HK610 HP10 HPA10 HO1 HO2 HCL
            go_wp2_with fail
            obtain ⟨B11, hB11⟩ : ∃ B11, w11.heap.size = B11 := ⟨_, rfl⟩
            have HB11 := hid_mk hB11
            have hl6 : mb.hb < mp + 1 := by rw [← HS6.out]; exact HA6.out.held.lt
            have hl7 : nb < mp + 1 := by rw [← HS6.out]; exact HN6.out.lt
            refine law9_loop2 w11 p p2 n n' B11 nb mp mb.hb d' (pdW n ss m xs3 (cc : Int)) b9 _ _ ss (PL.bfs n (fun k => PL.tg m.J k)) (PL.hdB m.S.T m.ls) hnp q0 (show p ≠ p2 by omega) hB11 HPA11 HP11 HKEPT ⟨rfl, rfl⟩ (fun k hk => ⟨.inr ⟨(HFIN.out.lt k).1, (HFIN.out.lt k).2.1⟩, by have := (HFIN.out.lt k).2.2; omega⟩) HSZ HL.out.1 (HN6.out.kp HK611.out hl7 (by simp)) (HMS.out.kp HK611.out (by omega) (by simp)) rfl rfl (HA6.out.held.kp HK611.out hl6 (by simp)) (fun u10 u19 u20 u21 u22 u23 u24 u25 u26 u27 u28 u29 u30 u31 u32 u33 u34 u35 u36 u37 u38 u39 u40 u41 u42 u43 u44 u45 u46 u47 u48 u49 u50 u51 u52 u53 u54 u55 u56 u57 u58 u59 u60 u61 u62 u63 u64 u65 u66 u67 u68 u69 u70 u71 u72 u73 u74 u75 u76 u77 u78 u79 u80 u81 u82 u83 u84 u85 u86 u87 u88 u89 u90 u91 u92 u93 u94 u95 u96 u97 u98 u99 u100 u101 u102 u103 u104 u105 u106 u107 u108 u109 u110 u111 u112 u113 u114 u115 u116 u117 u118 u119 u120 u121 u122 u123 u124 u125 u126 u127 u128 u129 u130 u131 u132 u133 u134 u135 u136 u137 u138 u139 u140 u141 u142 u143 u144 u145 u146 u147 u148 u149 u150 u151 u152 u153 u154 u155 u156 u157 u158 u159 u160 u161 u162 u163 u164 u165 u166 u167 u168 u169 u170 u171 u172 u173 u174 u175 u176 w12 hK12 => ?_)
            have hP12 := HPA11.out.kp (by rw [hB11]; exact hK12)
            have h611 : mp + 1 ≤ w11.heap.size := by rw [← HS6.out]; exact HK611.out.size
            have HB12 : Hid (Below w.heap.size w w12) := HB6.out.trans (Kp.below ((HK611.out.trans (hK12.mono (by omega) (by simp))).mono (by omega) (by simp)))
            have hroom := HKEPT.out.room
            have hhalf := HKEPT.out.half
            have hle := HKEPT.out.le
            have c27 := numbersLen_any w12 p n' d' b9 hP12
            have c26 := released_any w12 p n' d' b9 hP12
            have c20 := len_any w12 p n' d' b9 hP12 (by omega)
            obtain ⟨nc, hnc⟩ : ∃ nc, d'.nc = nc := ⟨_, rfl⟩
            obtain ⟨rl, hrl⟩ : ∃ rl, d'.rel = rl := ⟨_, rfl⟩
            rw [hnc] at c27 hroom
            rw [hrl] at c26 hroom hhalf
            have g1 : (((nc : Int) + (rl : Int)) != (n' : Int)) = false := by rw [bne_eq_false_iff_eq]; omega
            have g2 : decide ((n' : Int) < 2 * (rl : Int)) = false := by simp <;> omega
            clear hP12 hK12 h611 hnc hrl hB11 HKEPT HP11 HPA11 HK611 HFIN
            go_wp2_with (first
              | (go_at_call 27; refine c27.mono ?_; rintro _ _ ⟨rfl, rfl⟩)
              | (go_at_call 26; refine c26.mono ?_; rintro _ _ ⟨rfl, rfl⟩)
              | (go_at_call 20; refine c20.mono ?_; rintro _ _ ⟨rfl, rfl⟩)
              | go_in)
            go_ret
            exact ⟨rfl, HB12.out⟩
    · have hcase : (decide ((65536 : Int) < (n : Int)) = true) ∨ (decide ((65536 : Int) < (n : Int)) = false ∧ decide ((65536 : Int) < (n1 : Int)) = true) ∨ (decide ((65536 : Int) < (n : Int)) = false ∧ decide ((65536 : Int) < (n1 : Int)) = false ∧ decide ((65536 : Int) < (n2 : Int)) = true) ∨ (decide ((65536 : Int) < (n : Int)) = false ∧ decide ((65536 : Int) < (n1 : Int)) = false ∧ decide ((65536 : Int) < (n2 : Int)) = false ∧ decide ((65536 : Int) < (n3 : Int)) = true) := by
        simp only [decide_eq_true_eq, decide_eq_false_iff_not]
        omega
      clear hq hr'
      rcases hcase with d0 | ⟨d0, d1⟩ | ⟨d0, d1, d2⟩ | ⟨d0, d1, d2, d3⟩
      · go_wp2
        go_ret
        exact ⟨rfl, Below.refl _ _⟩
      · go_wp2
        go_ret
        exact ⟨rfl, Below.refl _ _⟩
      · go_wp2
        go_ret
        exact ⟨rfl, Below.refl _ _⟩
      · go_wp2
        go_ret
        exact ⟨rfl, Below.refl _ _⟩

theorem own : ownKnob Try.prog.godebug = none := by kernel_rfl

theorem strs_of {w : World} {x : Addr} {n cap : Nat} {ss : List ByteArray} (hl : n ≤ cap) (hlen : ss.length = cap) (h : ∀ i, i < ss.length → w.cell? (x.add i) = some (.string (ss.getD i ByteArray.empty))) : ArgStrs w (some x) n (ss.take n) := by
  refine ⟨by rw [List.length_take]; omega, fun h0 => ?_⟩
  have hx := h 0 (by omega)
  obtain ⟨b, o, sp⟩ := x
  have hsp : sp = none := by
    cases sp with
    | none => rfl
    | some q =>
      simp only [Addr.add, if_true, World.cell?] at hx
      split at hx <;> simp at hx
  subst hsp
  refine ⟨b, o, rfl, ?_, fun i hi => ?_⟩
  · rw [Addr.add_lit] at hx
    exact World.block_lt_of_cell? w _ hx
  · rw [List.length_take] at hi
    have := h i (by omega)
    rw [Addr.add_lit] at this
    rw [this, List.getElem_take, List.getD_eq_getElem?_getD, List.getElem?_eq_getElem (by omega)]
    rfl
theorem ints_of {w : World} {x : Addr} {n cap : Nat} {ss : List Int} (hl : n ≤ cap) (hlen : ss.length = cap) (h : ∀ i, i < ss.length → w.cell? (x.add i) = some (.int .i64 (ss.getD i 0))) : ArgInts w (some x) n (ss.take n) := by
  refine ⟨by rw [List.length_take]; omega, fun h0 => ?_⟩
  have hx := h 0 (by omega)
  obtain ⟨b, o, sp⟩ := x
  have hsp : sp = none := by
    cases sp with
    | none => rfl
    | some q =>
      simp only [Addr.add, if_true, World.cell?] at hx
      split at hx <;> simp at hx
  subst hsp
  refine ⟨b, o, rfl, ?_, fun i hi => ?_⟩
  · rw [Addr.add_lit] at hx
    exact World.block_lt_of_cell? w _ hx
  · rw [List.length_take] at hi
    have := h i (by omega)
    rw [Addr.add_lit] at this
    rw [this, List.getElem_take, List.getD_eq_getElem?_getD, List.getElem?_eq_getElem (by omega)]
    rfl

/-! ### THE ROW's STEP (the guide's frame, in the form with 'Below') -/
set_option maxRecDepth 100000 in
theorem lifted (os : Os) (started : os.Started) (H : Type) (enc : TypeId × Value → H) :
    ReturnsInHanded {} Try.checked os 9 .any (Rows.fnRelinkedWalkAgreesWithWalkSpec.pre6 enc Try.prog Try.f9 Rows.fnRelinkedWalkAgreesWithWalkRow.domain false) (Rows.fnRelinkedWalkAgreesWithWalkSpec.post enc Try.prog Try.f9 false true false false) := by
  refine returnsInHanded_of_change (C := Try.checked) own started (by kernel_rfl) Try.func9
    (ChangeSpec.witness6 (enc := enc) (C := Try.checked) false ⟨#[], #[.slice none 0 0, .slice none 0 0, .slice none 0 0, .slice none 0 0, .int .i64 0], []⟩ 8 (by kernel_rfl) (by kernel_rfl) (by kernel_rfl) (by kernel_rfl)) ?_
  intro W base args ds gs before hval0 hW hcnd _
  have hval : ∀ (j : Nat) t v, Try.f9.params[j]? = some t → args[j]? = some v → Value.okWide Try.prog W .any base t v := hval0
  have hW' := hW
  obtain ⟨p, q, hA0, hV, rfl, hfz, hnd⟩ := hW
  have hA : DataW.TrodAll enc Try.prog W 0 (fun _ => true) true Try.f9.params.toList args.toList ds p := hA0
  rw [Try.params9] at hA hval
  obtain ⟨v0, vs0, d0, ds0, p0, q0, hargs, rfl, rfl, h0, r0⟩ := trodAll_cons hA
  obtain ⟨v1, vs1, d1, ds1, p1, q1, rfl, rfl, rfl, h1, r1⟩ := trodAll_cons r0
  obtain ⟨v2, vs2, d2, ds2, p2, q2, rfl, rfl, rfl, h2, r2⟩ := trodAll_cons r1
  obtain ⟨v3, vs3, d3, ds3, p3, q3, rfl, rfl, rfl, h3, r3⟩ := trodAll_cons r2
  obtain ⟨v4, vs4, d4, ds4, p4, q4, rfl, rfl, rfl, h4, r4⟩ := trodAll_cons r3
  obtain ⟨rfl, rfl, rfl⟩ := trodAll_nil r4
  obtain rfl : args = #[v0, v1, v2, v3, v4] := by cases args; simp_all
  obtain ⟨rfl, rfl⟩ := trodVars_none hV
  obtain ⟨a0, len0, cap0, rfl⟩ := okWide_slice Try.underlying22 (hval 0 22 v0 rfl rfl)
  obtain ⟨a1, len1, cap1, rfl⟩ := okWide_slice Try.underlying23 (hval 1 23 v1 rfl rfl)
  obtain ⟨a2, len2, cap2, rfl⟩ := okWide_slice Try.underlying23 (hval 2 23 v2 rfl rfl)
  obtain ⟨a3, len3, cap3, rfl⟩ := okWide_slice Try.underlying23 (hval 3 23 v3 rfl rfl)
  obtain ⟨x4, rfl, rfl, rfl, wx4⟩ := open_int Try.underlying3 (hval 4 3 v4 rfl rfl) h4
  have k0 := h0
  have lt0 : ∀ x ∈ p0, x.block < W.heap.size := by obtain ⟨m, hm⟩ := k0; exact DataW.trod_lt m _ _ _ hm
  have k1 := h1
  have lt1 : ∀ x ∈ p1, x.block < W.heap.size := by obtain ⟨m, hm⟩ := k1; exact DataW.trod_lt m _ _ _ hm
  have k2 := h2
  have lt2 : ∀ x ∈ p2, x.block < W.heap.size := by obtain ⟨m, hm⟩ := k2; exact DataW.trod_lt m _ _ _ hm
  have k3 := h3
  have lt3 : ∀ x ∈ p3, x.block < W.heap.size := by obtain ⟨m, hm⟩ := k3; exact DataW.trod_lt m _ _ _ hm
  obtain ⟨ss, w0, hl0, hss⟩ : ∃ ss, ArgStrs W a0 len0 ss ∧ len0 ≤ maxLen ∧ ∀ (i : Nat) (h : i < ss.length), ss[i].size ≤ maxLen := by
    obtain ⟨fuel, hf⟩ := h0
    rcases open_strings Try.underlying22 Try.underlying9 (by kernel_rfl) hf with ⟨hcs, _⟩ | ⟨x, l, cp, ss, hcs, _, hl, hm, hz, _, hcell, hws⟩
    · simp [Value.cells] at hcs
      obtain ⟨rfl, rfl, rfl⟩ := hcs
      exact ⟨[], ⟨rfl, fun e => by omega⟩, Nat.zero_le _, fun i h => by simp at h⟩
    · simp [Value.cells] at hcs
      obtain ⟨rfl, rfl, rfl⟩ := hcs
      simp only [if_true] at hz
      exact ⟨ss.take len0, strs_of hl hz hcell, Nat.le_trans hl hm, fun i h => hws _ (List.mem_of_mem_take (List.getElem_mem h))⟩
  obtain ⟨xs1, w1, hl1⟩ : ∃ xs, ArgInts W a1 len1 xs ∧ len1 ≤ maxLen := by
    obtain ⟨fuel, hf⟩ := h1
    rcases open_ints Try.underlying23 Try.underlying3 (by kernel_rfl) hf with ⟨hcs, _⟩ | ⟨x, l, cp, ss, hcs, _, hl, hm, hz, _, hcell, hws⟩
    · simp [Value.cells] at hcs
      obtain ⟨rfl, rfl, rfl⟩ := hcs
      exact ⟨[], ⟨rfl, fun e => by omega⟩, Nat.zero_le _⟩
    · simp [Value.cells] at hcs
      obtain ⟨rfl, rfl, rfl⟩ := hcs
      simp only [if_true] at hz
      exact ⟨ss.take len1, ints_of hl hz hcell, Nat.le_trans hl hm⟩
  obtain ⟨xs2, w2, hl2⟩ : ∃ xs, ArgInts W a2 len2 xs ∧ len2 ≤ maxLen := by
    obtain ⟨fuel, hf⟩ := h2
    rcases open_ints Try.underlying23 Try.underlying3 (by kernel_rfl) hf with ⟨hcs, _⟩ | ⟨x, l, cp, ss, hcs, _, hl, hm, hz, _, hcell, hws⟩
    · simp [Value.cells] at hcs
      obtain ⟨rfl, rfl, rfl⟩ := hcs
      exact ⟨[], ⟨rfl, fun e => by omega⟩, Nat.zero_le _⟩
    · simp [Value.cells] at hcs
      obtain ⟨rfl, rfl, rfl⟩ := hcs
      simp only [if_true] at hz
      exact ⟨ss.take len2, ints_of hl hz hcell, Nat.le_trans hl hm⟩
  obtain ⟨xs3, w3, hl3⟩ : ∃ xs, ArgInts W a3 len3 xs ∧ len3 ≤ maxLen := by
    obtain ⟨fuel, hf⟩ := h3
    rcases open_ints Try.underlying23 Try.underlying3 (by kernel_rfl) hf with ⟨hcs, _⟩ | ⟨x, l, cp, ss, hcs, _, hl, hm, hz, _, hcell, hws⟩
    · simp [Value.cells] at hcs
      obtain ⟨rfl, rfl, rfl⟩ := hcs
      exact ⟨[], ⟨rfl, fun e => by omega⟩, Nat.zero_le _⟩
    · simp [Value.cells] at hcs
      obtain ⟨rfl, rfl, rfl⟩ := hcs
      simp only [if_true] at hz
      exact ⟨ss.take len3, ints_of hl hz hcell, Nat.le_trans hl hm⟩
  clear hA0 hval0
  refine (walk a0 len0 cap0 a1 len1 cap1 a2 len2 cap2 a3 len3 cap3 x4 ss xs1 xs2 xs3 W hl0 hl1 hl2 hl3 hss w0 w1 w2 w3 (by exact wx4)).mono fun e W' ⟨he, bel⟩ => ?_
  subst he
  exact ⟨_, rfl, _, _, _, [], _, [], hW', trodAll_mk1 (shut_bool Try.underlying4 _), (trodAll_cons_mk (Below.trod laidOut (by kernel_rfl) (of_decide_eq_true (by kernel_rfl)) k0 bel lt0) (trodAll_cons_mk (Below.trod laidOut (by kernel_rfl) (of_decide_eq_true (by kernel_rfl)) k1 bel lt1) (trodAll_cons_mk (Below.trod laidOut (by kernel_rfl) (of_decide_eq_true (by kernel_rfl)) k2 bel lt2) (trodAll_cons_mk (Below.trod laidOut (by kernel_rfl) (of_decide_eq_true (by kernel_rfl)) k3 bel lt3) (trodAll_cons_mk (shut_int Try.underlying3 wx4) trodAll_mk0))))), rfl, bel.frame _, fun h => by cases h⟩

theorem jf0 : (Rows.fnRelinkedWalkAgreesWithWalkRow.wf (OpenSpec.ofChange Rows.fnRelinkedWalkAgreesWithWalkSpec)) = true := by kernel_rfl
theorem jf3 : (Try.f9.params.all (Try.prog.readableRec ·)) = true := by kernel_rfl
theorem jf4 : (namedTie Try.prog Rows.fnRelinkedWalkAgreesWithWalkRow.named Rows.fnRelinkedWalkAgreesWithWalkSpec.vars) = true := by kernel_rfl
theorem jf5 : ((Rows.fnRelinkedWalkAgreesWithWalkRow.stops == [])) = true := by kernel_rfl
theorem jf7 : ((Rows.fnRelinkedWalkAgreesWithWalkRow.knobs == [])) = true := by kernel_rfl
theorem jf9 : ((Rows.fnRelinkedWalkAgreesWithWalkRow.inPlace == Try.prog.inPlace 9)) = true := by kernel_rfl
theorem jf10 : ((Rows.fnRelinkedWalkAgreesWithWalkRow.unfollowed == Try.prog.unfollowed 9)) = true := by kernel_rfl
theorem jf11 : ((Rows.fnRelinkedWalkAgreesWithWalkRow.recurses == Try.prog.recurses 9)) = true := by kernel_rfl
theorem jf12 : ((Rows.fnRelinkedWalkAgreesWithWalkRow.named == Try.prog.varsNamed 9)) = true := by kernel_rfl
theorem jf13 : ((Rows.fnRelinkedWalkAgreesWithWalkRow.maps == (Try.f9.params.toList ++ Rows.fnRelinkedWalkAgreesWithWalkSpec.plain.varTypes Try.prog).any (Try.prog.mapsRec ·))) = true := by kernel_rfl
theorem jf14 : ((Rows.fnRelinkedWalkAgreesWithWalkRow.ifaces == (Try.f9.params.toList ++ Rows.fnRelinkedWalkAgreesWithWalkSpec.plain.varTypes Try.prog).any (Try.prog.ifacesRec ·))) = true := by kernel_rfl
theorem jf15 : ((Rows.fnRelinkedWalkAgreesWithWalkRow.mapsOut == Try.prog.mapsAmong Try.f9.resultTypes.toList)) = true := by kernel_rfl
theorem jf16 : ((Rows.fnRelinkedWalkAgreesWithWalkRow.loops == (Try.f9.params.toList ++ Rows.fnRelinkedWalkAgreesWithWalkSpec.plain.varTypes Try.prog).any (Try.prog.loopsFrom ·))) = true := by kernel_rfl
theorem jf17 : ((Rows.fnRelinkedWalkAgreesWithWalkRow.wideKeys == (Try.f9.params.toList ++ Rows.fnRelinkedWalkAgreesWithWalkSpec.plain.varTypes Try.prog ++ Try.f9.resultTypes.toList).any (Try.prog.wideKeysFrom ·))) = true := by kernel_rfl
theorem jf18 : (Rows.fnRelinkedWalkAgreesWithWalkSpec.vars.all (Try.prog.varReadable ·)) = true := by kernel_rfl
theorem jf19 : (Try.f9.resultTypes.all (fun t => Try.prog.readableRec t && decide (t < Try.prog.types.size))) = true := by kernel_rfl
theorem jf20 : ((Rows.fnRelinkedWalkAgreesWithWalkRow.ifacesOut == Try.f9.resultTypes.toList.any (Try.prog.ifacesRec ·))) = true := by kernel_rfl
theorem jf21 : ((Rows.fnRelinkedWalkAgreesWithWalkRow.loopsOut == Try.f9.resultTypes.toList.any (Try.prog.loopsFrom ·))) = true := by kernel_rfl
theorem jf23 : (Rows.fnRelinkedWalkAgreesWithWalkRow.shortTexts.isNone) = true := by kernel_rfl
theorem jf28 : ((Rows.fnRelinkedWalkAgreesWithWalkRow.kinds == (if Rows.fnRelinkedWalkAgreesWithWalkRow.domain.isEmpty then [] else Try.f9.params.toList.map fun t => match Try.prog.underlying t with | some (.int k) => some k | _ => none))) = true := by kernel_rfl
theorem jf29 : ((Rows.fnRelinkedWalkAgreesWithWalkRow.pinned == Rows.fnRelinkedWalkAgreesWithWalkRow.pinnedBy)) = true := by kernel_rfl
theorem jf30 : ((Rows.fnRelinkedWalkAgreesWithWalkRow.veiled == (Try.f9.params.toList ++ Rows.fnRelinkedWalkAgreesWithWalkSpec.plain.varTypes Try.prog ++ Try.f9.resultTypes.toList).any (Try.prog.veiledRec ·))) = true := by kernel_rfl
theorem jf31 : (Rows.fnRelinkedWalkAgreesWithWalkRow.veiledFits Try.prog Try.f9.params.toList (Try.f9.params.toList ++ Rows.fnRelinkedWalkAgreesWithWalkSpec.plain.varTypes Try.prog ++ Try.f9.resultTypes.toList)) = true := by kernel_rfl
set_option maxRecDepth 1000000 in
theorem closed : joinedFacts Try.prog 9 Try.f9 Rows.fnRelinkedWalkAgreesWithWalkSpec Rows.fnRelinkedWalkAgreesWithWalkRow = true := (and_t (and_t (and_t (and_t (and_t (and_t (and_t (and_t (and_t (and_t (and_t (and_t (and_t (and_t (and_t (and_t (and_t (and_t (and_t (and_t (and_t (and_t (and_t (and_t (and_t (and_t (and_t (and_t (and_t (and_t (and_t jf0 laidOut) pMaps) jf3) jf4) jf5) pStops) jf7) pKnobs) jf9) jf10) jf11) jf12) jf13) jf14) jf15) jf16) jf17) jf18) jf19) jf20) jf21) pPlain) jf23) pHeard) pEnter) pLifts) pMake) jf28) jf29) jf30) jf31)
theorem over : Rows.fnRelinkedWalkAgreesWithWalkRow.holds Try.pinned (OpenSpec.ofChange Rows.fnRelinkedWalkAgreesWithWalkSpec) :=
  OpenClaim.holds_of_wide 9 Try.f9 rfl rfl rfl rfl rfl rfl rfl ⟨rfl, rfl, rfl, rfl, rfl⟩ rfl rfl rfl rfl rfl (by kernel_rfl) Try.func9 closed
    (of_decide_eq_true (by kernel_rfl)) (by unfold Func.isWrapper; first | (rw [if_pos (by decide +kernel)]; kernel_rfl) | (rw [if_neg (by decide +kernel)]; exact ⟨rfl, rfl⟩))
    (fun os started H enc _ => lifted os started H enc)

/-- THE STATEMENT -/
theorem proved : Rows.FnRelinkedWalkAgreesWithWalkSaid :=
  over

end Go.Proofs.Qxb6600010a.fnRelinkedWalkAgreesWithWalk
