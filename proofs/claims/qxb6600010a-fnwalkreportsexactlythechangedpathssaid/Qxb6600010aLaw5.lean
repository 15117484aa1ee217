/-
  THE LAW FnWalkReportsExactlyTheChangedPaths: the walk and the row.
-/
import Derived.Test.Qxb6600010aBuild
import Derived.Test.Qxb6600010aLaw5P
import Derived.Test.Qxb6600010aFacts
import Derived.SliceStrings
import Derived.ProofKit
import Derived.OpenShut
import Derived.ShutString
import Derived.ChangeOld
import Derived.ChangeSlices
import Derived.Below
namespace Go.Proofs.Qxb6600010a.fnWalkReportsExactlyTheChangedPaths
open Go.ChangeShapes Go.WideShapes Go.ChangeAt Go.RowKit
open Go.ChangeMaps (open_string shut_string)
set_option linter.unusedVariables false
set_option linter.unusedSimpArgs false
attribute [local go_sem ↓] Go.wp_at_zero Go.wp_at_succ

set_option maxHeartbeats 20000000 in
set_option maxRecDepth 100000 in
theorem walk (ao : Option Addr) (n c : Nat) (a1 : Option Addr) (n1 c1 : Nat) (a2 : Option Addr) (n2 c2 : Nat) (a3 : Option Addr) (n3 c3 : Nat) (ss : List ByteArray) (xs1 xs2 xs3 : List Int) (w : World) (hn : n ≤ maxLen) (h1 : n1 ≤ maxLen) (h2 : n2 ≤ maxLen) (h3 : n3 ≤ maxLen) (hs : ∀ (i : Nat) (h : i < ss.length), ss[i].size ≤ maxLen)
    (h : ArgStrs w ao n ss) (g1 : ArgInts w a1 n1 xs1) (g2 : ArgInts w a2 n2 xs2) (g3 : ArgInts w a3 n3 xs3) :
    Calls Try.prog 5 #[.slice ao n c, .slice a1 n1 c1, .slice a2 n2 c2, .slice a3 n3 c3] w fun e w' => e = .returned (.bool true) ∧ Below w.heap.size w w' := by
  have cb := bound21_any ao n c a1 n1 c1 a2 n2 c2 a3 n3 c3 ss w hn h1 h2 h3 hs h
  have HH : Hid (ArgStrs w ao n ss) := h
  have G1 : Hid (ArgInts w a1 n1 xs1) := g1
  have G2 : Hid (ArgInts w a2 n2 xs2) := g2
  have G3 : Hid (ArgInts w a3 n3 xs3) := g3
  have HSZ : Hid (∀ k : Nat, (ss[k]?.getD ⟨#[]⟩).size ≤ maxLen) := by
    intro k
    by_cases hk : k < ss.length
    · rw [List.getElem?_eq_getElem hk]; exact hs k hk
    · rw [List.getElem?_eq_none (by omega)]; exact Nat.zero_le _
  unfold maxLen at hn h1 h2 h3
  clear hs h g1 g2 g3
  go_enter Try.func5, Try.ntmps5
  go_wp2_with fail
  refine cb.mono ?_
  rintro e w' ⟨r, rfl, hr, rfl⟩
  clear cb
  cases r with
  | false =>
    go_wp2
    go_ret
    exact ⟨rfl, Below.refl _ _⟩
  | true =>
    have hr' := hr rfl
    clear hr
    by_cases hq : n ≤ 65536 ∧ n1 ≤ 65536 ∧ n2 ≤ 65536 ∧ n3 ≤ 65536
    · obtain ⟨q0, q1, q2, q3⟩ := hq
      have d0 : decide ((65536 : Int) < (n : Int)) = false := by simp <;> omega
      have d1 : decide ((65536 : Int) < (n1 : Int)) = false := by simp <;> omega
      have d2 : decide ((65536 : Int) < (n2 : Int)) = false := by simp <;> omega
      have d3 : decide ((65536 : Int) < (n3 : Int)) = false := by simp <;> omega
      have c12 := bytes_any ao n c (n1 + n2 + n3) ss w (by omega) q0 (by omega) HH.out
      rw [Int.natCast_add, Int.natCast_add] at c12
      go_wp2_with fail
      refine c12.mono ?_
      rintro e w' ⟨r, rfl, rfl⟩
      clear c12
      by_cases hrr : 1048576 < r
      · have e1 : decide ((1048576 : Int) < r) = true := by simp <;> omega
        go_wp2
        go_ret
        exact ⟨rfl, Below.refl _ _⟩
      · have e1 : decide ((1048576 : Int) < r) = false := by simp <;> omega
        by_cases hn0 : n = 0
        · subst hn0
          go_wp2
          go_ret
          exact ⟨rfl, Below.refl _ _⟩
        · have e2 : ((n : Int) == 0) = false := by rw [beq_eq_false_iff_ne]; omega
          have hnp : 0 < n := by omega
          clear hn0 hrr
          go_wp2_with fail
          refine (cloneStrs_any ao n c ss w q0 hnp HH.out).mono ?_
          rintro e w1 ⟨rfl, hN1, hB1⟩
          go_wp2_with fail
          refine (cloneInts_any a1 n1 c1 xs1 w1 q1 (G1.out.below hB1)).mono ?_
          rintro e w2 ⟨v1, rfl, hI1, hB2⟩
          have hB12 : Below w.heap.size w w2 := hB1.trans (hB2.mono hB1.size)
          go_wp2_with fail
          refine (cloneInts_any a2 n2 c2 xs2 w2 q2 (G2.out.below hB12)).mono ?_
          rintro e w3 ⟨v2, rfl, hI2, hB3⟩
          have hB13 : Below w.heap.size w w3 := hB12.trans (hB3.mono hB12.size)
          go_wp2_with fail
          refine (cloneInts_any a3 n3 c3 xs3 w3 q3 (G3.out.below hB13)).mono ?_
          rintro e w4 ⟨v3, rfl, hI3, hB4⟩
          have hB14 : Below w.heap.size w w4 := hB13.trans (hB4.mono hB13.size)
          have hl0 : ss.length = n := HH.out.len
          have hl1 : xs1.length = n1 := G1.out.len
          have hl2 : xs2.length = n2 := G2.out.len
          have hl3 : xs3.length = n3 := G3.out.len
          obtain ⟨nb, hnb⟩ : ∃ nb, w.heap.size = nb := ⟨_, rfl⟩
          rw [hnb] at hN1
          have hb24 : Below w1.heap.size w1 w4 := (hB2.trans (hB3.mono hB2.size)).trans (hB4.mono (Nat.le_trans hB2.size hB3.size))
          have hN4 : Row w4 nb 9 (strs ss) := hN1.below hb24 hN1.lt
          have hI14 := (hI1.below hB3).below hB4
          have hI24 := hI2.below hB4
          have HNB : Hid (w.heap.size = nb) := hnb
          have HB14 : Hid (Below w.heap.size w w4) := hB14
          have HN4 : Hid (Row w4 nb 9 (strs ss)) := hN4
          have HI3 : Hid (IntsIn w4 v3 xs3) := hI3
          rw [hnb]
          have hbd := build_any w4 nb ss v1 v2 xs1 xs2 n hnp q0 hl0 hN4 hI14 hI24 (by omega) (by omega)
          have HL : Hid (ss.length = n ∧ xs3.length = n3) := ⟨hl0, hl3⟩
          clear hN1 hN4 hI1 hI2 hI3 hI14 hI24 hB1 hB2 hB3 hB4 hB12 hB13 hB14 hb24 hl0 hl1 hl2 hl3 hnb HH G1 G2 G3 d0 d1 d2 d3 e1 e2 hr'
          go_wp2_with fail
          refine hbd.mono ?_
          rintro e w5 hpost
          clear hbd
          have hms0 : Hid (Below w.heap.size w w4) := HB14
          rcases hpost with ⟨rfl, hK5⟩ | ⟨mb, m, rfl, hM, hA, hK5⟩
          · have HB5 : Hid (Below w.heap.size w w5) := HB14.out.trans ((Kp.below hK5).mono HB14.out.size)
            clear hK5
            go_wp2
            go_ret
            exact ⟨rfl, HB5.out.trans ((Below.refl _ _).alloc (HB5.out.size) _)⟩
          · unfold meshV slc
            have HM : Hid (PL.PMesh ss n m) := hM
            have HA : Hid (MeshAt w5 n mb m) := hA
            have HK5 : Hid (Kp w4.heap.size [] w4 w5) := hK5
            clear hM hA hK5
            go_upto_region 14 with fail
            obtain ⟨mp, hmp⟩ : ∃ mp, w5.heap.size = mp := ⟨_, rfl⟩
            have hms := row_new w5 [.int .i64 (n : Int), .slice (some ⟨mb.rb, 0, none⟩) n n, .slice (some ⟨mb.tb, 0, none⟩) n n, .map (some mb.cb), .slice (some ⟨mb.jb, 0, none⟩) n n, .slice (some ⟨mb.lb, 0, none⟩) n n, .slice (some ⟨mb.hb, 0, none⟩) n n, .int .i64 (PL.hc m.S.T m.ls n : Int)] 32
            have hK6 : Kp mp [] w5 (w5.alloc (Obj.cells #[.int .i64 (n : Int), .slice (some ⟨mb.rb, 0, none⟩) n n, .slice (some ⟨mb.tb, 0, none⟩) n n, .map (some mb.cb), .slice (some ⟨mb.jb, 0, none⟩) n n, .slice (some ⟨mb.lb, 0, none⟩) n n, .slice (some ⟨mb.hb, 0, none⟩) n n, .int .i64 (PL.hc m.S.T m.ls n : Int)] 32)) := by rw [← hmp]; exact (Kp.refl _ _ _).alloc (Nat.le_refl _) _
            rw [hmp] at hms ⊢
            have HMP : Hid (w5.heap.size = mp) := hmp
            have hs6 : (w5.alloc (Obj.cells #[.int .i64 (n : Int), .slice (some ⟨mb.rb, 0, none⟩) n n, .slice (some ⟨mb.tb, 0, none⟩) n n, .map (some mb.cb), .slice (some ⟨mb.jb, 0, none⟩) n n, .slice (some ⟨mb.lb, 0, none⟩) n n, .slice (some ⟨mb.hb, 0, none⟩) n n, .int .i64 (PL.hc m.S.T m.ls n : Int)] 32)).heap.size = mp + 1 := by rw [World.size_alloc, hmp]
            generalize PL.hc m.S.T m.ls n = hc at *
            generalize w5.alloc (Obj.cells #[.int .i64 (n : Int), .slice (some ⟨mb.rb, 0, none⟩) n n, .slice (some ⟨mb.tb, 0, none⟩) n n, .map (some mb.cb), .slice (some ⟨mb.jb, 0, none⟩) n n, .slice (some ⟨mb.lb, 0, none⟩) n n, .slice (some ⟨mb.hb, 0, none⟩) n n, .int .i64 (hc : Int)] 32) = w6 at *
            have hsz4 : w4.heap.size ≤ mp := by rw [← hmp]; exact HK5.out.size
            have hK46 : Kp w4.heap.size [] w4 w6 := HK5.out.trans (hK6.mono hsz4 (by simp))
            have hst := state_any w6 n ss nb m mb v3 xs3 (-1) hc HM.out (HA.out.kp (by rw [hmp]; exact hK6)) (HN4.out.kp hK46 HN4.out.lt (by simp)) (HI3.out.below (Kp.below hK46)) (by rw [HL.out.2]; omega) (by omega) (by omega) HSZ.out
            unfold meshV slc at hst
            have HMS : Hid (Row w6 mp 32 [.int .i64 (n : Int), .slice (some ⟨mb.rb, 0, none⟩) n n, .slice (some ⟨mb.tb, 0, none⟩) n n, .map (some mb.cb), .slice (some ⟨mb.jb, 0, none⟩) n n, .slice (some ⟨mb.lb, 0, none⟩) n n, .slice (some ⟨mb.hb, 0, none⟩) n n, .int .i64 (hc : Int)]) := hms
            have m0 := hms.cell (i := 0) rfl
            have m1 := hms.cell (i := 1) rfl
            have m2 := hms.cell (i := 2) rfl
            have m3 := hms.cell (i := 3) rfl
            have m4 := hms.cell (i := 4) rfl
            have m5 := hms.cell (i := 5) rfl
            have m6 := hms.cell (i := 6) rfl
            have m7 := hms.cell (i := 7) rfl
            have HK6 : Hid (Kp mp [] w5 w6) := hK6
            have HS6 : Hid (w6.heap.size = mp + 1) := hs6
            have HK46 : Hid (Kp w4.heap.size [] w4 w6) := hK46
            clear hms hK6 hs6 hmp hK46
            go_wp2_with fail
            refine hst.mono ?_
            rintro e w7 ⟨p, b, rfl, hPs, hK7, hFr⟩
            clear hst m0 m1 m2 m3 m4 m5 m6 m7
            rw [HS6.out] at hK7 hFr
            have HK7 : Hid (Kp (mp + 1) [] w6 w7) := hK7
            have HFR : Hid (PFr (mp + 1) p n b) := hFr
            have HPS : Hid (PsAt w7 p n (pdState n ss m xs3 (-1)) b) := hPs
            have hs7 : mp + 1 ≤ w7.heap.size := by rw [← HS6.out]; exact hK7.size
            have hms7 := HMS.out.kp hK7 (by omega) (by simp)
            have hK47 : Kp w4.heap.size [] w4 w7 := HK46.out.trans (hK7.mono (by omega) (by simp))
            have HB7 : Hid (Below w.heap.size w w7) := HB14.out.trans ((Kp.below hK47).mono HB14.out.size)
            have n0 := hms7.cell (i := 0) rfl
            have hmk := run_make_wide (P := Try.prog) 43 45 _ 3 40 Try.underlying43 info45 .i64 .i64 n (by omega) (by omega)
            clear hPs hK7 hFr hms7 hK47
            go_wp2_with fail
            have HFIN : Hid (PL.BFin n (fun k => PL.tg m.J k) (PL.rkf m) (PL.bfs n (fun k => PL.tg m.J k))) := PL.bfs_fin (PL.gr_of HM.out)
            have HV0 : Hid (∀ k, k < n → (((pdState n ss m xs3 (-1)).P k).hops = 0 ∨ (((pdState n ss m xs3 (-1)).P k).via < n ∧ ((pdState n ss m xs3 (-1)).P k).prev < n)) ∧ ((pdState n ss m xs3 (-1)).P k).hops ≤ 1000000) := by
              intro k hk
              rw [pdState_P _ _ _ _ _ _ hk]
              have := PL.oldP_ok (m := m) xs3 (-1) hnp k
              exact ⟨this.1, by omega⟩
            obtain ⟨B7, hB7⟩ : ∃ B7, w7.heap.size = B7 := ⟨_, rfl⟩
            have HB : Hid (w7.heap.size = B7) := hB7
            rw [hB7]
            rw [hB7] at hs7
            have hz0 : (pdState n ss m xs3 (-1)).P 0 = pt0 := by rw [pdState_P _ _ _ _ _ _ hnp]; unfold PL.oldP; rw [if_neg (fun h => by have := h.2.1; omega)]
            have j1 : QRow (w7.alloc (Obj.cells (madeCells #[Value.string ⟨#[]⟩, Value.int IntKind.i64 0, Value.string ⟨#[]⟩] (n * 3)) 45)) B7 n (pre 1 (fun k => nmd (pdState n ss m xs3 (-1)).nm ((pdState n ss m xs3 (-1)).P k)) np0) := (qrow_made w7 B7 n hB7).congr (fun k hk => by
              unfold pre
              by_cases h : k < 1
              · have e : k = 0 := by omega
                rw [if_pos h, e]; show np0 = nmd (pdState n ss m xs3 (-1)).nm ((pdState n ss m xs3 (-1)).P 0); rw [hz0]; rfl
              · rw [if_neg h])
            have jK : Kp B7 [] w7 (w7.alloc (Obj.cells (madeCells #[Value.string ⟨#[]⟩, Value.int IntKind.i64 0, Value.string ⟨#[]⟩] (n * 3)) 45)) := by rw [← hB7]; exact (Kp.refl _ _ _).alloc (Nat.le_refl _) _
            have hp7 : p < B7 := by rw [← hB7]; exact HPS.out.st.lt
            generalize w7.alloc (Obj.cells (madeCells #[Value.string ⟨#[]⟩, Value.int IntKind.i64 0, Value.string ⟨#[]⟩] (n * 3)) 45) = w8 at *
            clear hB7 hz0 n0
            refine law5_loop1 w7 w8 p n B7 B7 _ b hnp q0 HB HPS HV0 (Nat.le_refl _) j1 jK (fun u14 u15 u16 u17 u18 u19 u20 u21 u22 u23 u24 u25 u26 u27 u28 u29 u30 u31 u32 u33 u34 u35 u36 u37 u38 u39 u40 u41 u42 u43 u44 u45 u46 u47 u48 u49 u50 u51 u52 u53 u54 u55 u56 u57 u58 u59 u60 u61 u62 u63 u64 u65 u66 u67 u68 u69 u70 u71 u72 u73 u74 u75 u76 u77 u78 u79 u80 u81 u82 u83 u84 u85 u86 u87 u88 u89 u90 u91 u92 u93 u94 u95 u96 u97 u98 u99 u100 u101 u102 u103 u104 u105 u106 u107 u108 u109 u110 u111 u112 u113 u114 u115 u116 u117 u118 u119 u120 u121 u122 u123 u124 u125 u126 u127 u128 u129 u130 u131 u132 u133 u134 u135 u136 u137 u138 u139 u140 u141 u142 u143 u144 u145 u146 u147 u148 u149 u150 u151 u152 u153 u154 u155 u156 u157 u158 u159 u160 u161 u162 u163 u164 u165 u166 u167 u168 u169 u170 u171 u172 u173 u174 u175 u176 u177 u178 u179 u180 u181 u182 u183 u184 u185 u186 u187 u188 u189 u190 u191 u192 u193 w9 hx => ?_)
            clear j1 jK
            obtain ⟨hQ9, hK9⟩ := hx
            have hP9 := HPS.out.kp (by rw [HB.out]; exact hK9)
            have hwk := state_walk HM.out hP9 HFR.out
            have HQ9 : Hid (QRow w9 B7 n (fun k => nmd (pdState n ss m xs3 (-1)).nm ((pdState n ss m xs3 (-1)).P k))) := hQ9
            have HB9 : Hid (Below w.heap.size w w9) := HB7.out.trans ((Kp.below hK9).mono (by rw [← HB.out]; exact HB7.out.size))
            have hl9 := hQ9.lt
            have hBw : w.heap.size ≤ B7 := by rw [← HB.out]; exact HB7.out.size
            have hpw : w.heap.size ≤ p := Nat.le_trans (Nat.le_trans HB14.out.size hsz4) (Nat.le_trans (Nat.le_succ _) HFR.out.pp)
            clear hP9 hQ9 hK9
            go_wp2_with fail
            refine hwk.mono ?_
            rintro e w10 ⟨cv, nx, qu, pb, pc, C, rfl, hP10, hpb, hperm, hsrt, hown, hK10⟩
            clear hwk
            obtain ⟨B10, hB10⟩ : ∃ B10, w10.heap.size = B10 := ⟨_, rfl⟩
            have hs10 : w9.heap.size ≤ B10 := by rw [← hB10]; exact hK10.size
            have hQ10 := HQ9.out.kp hK10 hl9 (by simp; omega)
            have HP10 : Hid (PsAt w10 p n { (pdState n ss m xs3 (-1)) with P := PL.bfs n (fun k => PL.tg m.J k) } { b with pb := pb, pc := pc, nx := nx, qu := qu }) := hP10
            have HB10 : Hid (w10.heap.size = B10) := hB10
            have HW10 : Hid (Below w.heap.size w w10) := HB9.out.trans (Kp.below (hK10.mono (Nat.le_trans HB9.out.size (Nat.le_refl _)) (fun q h1 h2 => by simp at h2; omega)))
            have hstr := chg_strict hperm (difs_pw (pd_apart HM.out xs3 (-1))) hsrt
            have hlen : C.length = (difs (pdState n ss m xs3 (-1)).P (PL.bfs n (fun k => PL.tg m.J k)) n).length := by
              have := hperm.length_eq
              rw [List.length_map] at this
              exact this
            have hdl := difs_len (pdState n ss m xs3 (-1)).P (PL.bfs n (fun k => PL.tg m.J k)) n
            have HALL : Hid (∀ (i : Nat) (x : CH), C[i]? = some x → ∃ k, 0 < k ∧ k < n ∧ x = ⟨(pdState n ss m xs3 (-1)).nm k, nmd (pdState n ss m xs3 (-1)).nm ((pdState n ss m xs3 (-1)).P k), nmd (pdState n ss m xs3 (-1)).nm (PL.bfs n (fun k => PL.tg m.J k) k)⟩ ∧ nmd (pdState n ss m xs3 (-1)).nm ((pdState n ss m xs3 (-1)).P k) ≠ nmd (pdState n ss m xs3 (-1)).nm (PL.bfs n (fun k => PL.tg m.J k) k) ∧ (pdState n ss m xs3 (-1)).num ((pdState n ss m xs3 (-1)).nm k) = some (k : Int) ∧ ((pdState n ss m xs3 (-1)).nm k).size ≤ maxLen) := by
              intro i x hx
              have h1 := hperm.mem_iff.1 (List.mem_of_getElem? hx)
              obtain ⟨k, hk, rfl⟩ := List.mem_map.1 h1
              obtain ⟨hk1, hk2, hk3⟩ := difs_mem.1 hk
              rw [pdState_P _ _ _ _ _ _ hk1] at hk3
              refine ⟨k, by omega, hk1, rfl, fun e => ?_, ?_, HSZ.out k⟩
              · rw [pdState_P _ _ _ _ _ _ hk1] at e
                exact ptNe_yes hk3 (nmd_inj (pd_apart HM.out xs3 (-1)) (good_bfs HFIN.out k) (good_old xs3 (-1) hnp k) e.symm)
              · rw [pd_num HM.out xs3 (-1) k hk1, if_pos (turned_num HM.out xs3 (-1) k hk2 hk3)]
            have HSTR : Hid (C.Pairwise (fun x y => PL.nlt x.nm y.nm = true)) := hstr
            obtain ⟨ca, cc, cl, hcl, rfl⟩ : ∃ ca cc cl, C.length = cl ∧ cv = .slice ca cl cc := by
              rcases hown.2 with ⟨rfl, h0⟩ | ⟨g, cap, cur, hv, _⟩
              · exact ⟨none, 0, 0, h0, rfl⟩
              · exact ⟨_, _, _, rfl, hv⟩
            rw [hcl] at hown hlen
            have HCL : Hid (C.length = cl) := hcl
            have HLEN : Hid (cl = (difs (pdState n ss m xs3 (-1)).P (PL.bfs n (fun k => PL.tg m.J k)) n).length) := hlen
            have hcl2 : cl ≤ 65536 := by omega
            have HOWN : Hid (w10.ownsRow w9.heap.size 48 7 (.slice ca cl cc) cl (chs C)) := hown
            have HQ10 : Hid (QRow w10 B7 n (fun k => nmd (pdState n ss m xs3 (-1)).nm ((pdState n ss m xs3 (-1)).P k))) := hQ10
            clear hperm hsrt hstr hlen hdl hcl hown hQ10 hP10 hK10
            go_wp2_with fail
            have j1 : QRow (w10.alloc (Obj.cells (madeCells #[Value.string ⟨#[]⟩, Value.int IntKind.i64 0, Value.string ⟨#[]⟩] (n * 3)) 45)) B10 n (pre 1 (fun k => nmd (pdState n ss m xs3 (-1)).nm (PL.bfs n (fun k => PL.tg m.J k) k)) np0) := (qrow_made w10 B10 n hB10).congr (fun k hk => by
              unfold pre
              by_cases h : k < 1
              · have e : k = 0 := by omega
                rw [if_pos h, e]; show np0 = nmd (pdState n ss m xs3 (-1)).nm (PL.bfs n (fun k => PL.tg m.J k) 0); rw [HFIN.out.z]; rfl
              · rw [if_neg h])
            have jK : Kp B10 [] w10 (w10.alloc (Obj.cells (madeCells #[Value.string ⟨#[]⟩, Value.int IntKind.i64 0, Value.string ⟨#[]⟩] (n * 3)) 45)) := by rw [← hB10]; exact (Kp.refl _ _ _).alloc (Nat.le_refl _) _
            generalize w10.alloc (Obj.cells (madeCells #[Value.string ⟨#[]⟩, Value.int IntKind.i64 0, Value.string ⟨#[]⟩] (n * 3)) 45) = w11 at *
            clear hB10 hmk
            refine law5_loop2 w10 w11 p n B10 B7 B10 { (pdState n ss m xs3 (-1)) with P := PL.bfs n (fun k => PL.tg m.J k) } { b with pb := pb, pc := pc, nx := nx, qu := qu } (pdState n ss m xs3 (-1)).P (fun k => nmd (pdState n ss m xs3 (-1)).nm ((pdState n ss m xs3 (-1)).P k)) hnp q0 HB10 HP10 (fun k hk => ⟨.inr ⟨(HFIN.out.lt k).1, (HFIN.out.lt k).2.1⟩, by have := (HFIN.out.lt k).2.2; show (PL.bfs n (fun k => PL.tg m.J k) k).hops ≤ _; omega⟩)
              (fun k hk => by
                rw [pdState_P _ _ _ _ _ _ hk]
                exact npNe_ptNe (pd_apart HM.out xs3 (-1)) (good_bfs HFIN.out k) (good_old xs3 (-1) hnp k)) (by omega) (Nat.le_refl _) HQ10.out j1 jK (fun u17 u18 u19 u20 u21 u22 u23 u24 u25 u26 u27 u28 u29 u30 u31 u32 u33 u34 u35 u36 u37 u38 u39 u40 u41 u42 u43 u44 u45 u46 u47 u48 u49 u50 u51 u52 u53 u54 u55 u56 u57 u58 u59 u60 u61 u62 u63 u64 u65 u66 u67 u68 u69 u70 u71 u72 u73 u74 u75 u76 u77 u78 u79 u80 u81 u82 u83 u84 u85 u86 u87 u88 u89 u90 u91 u92 u93 u94 u95 u96 u97 u98 u99 u100 u101 u102 u103 u104 u105 u106 u107 u108 u109 u110 u111 u112 u113 u114 u115 u116 u117 u118 u119 u120 u121 u122 u123 u124 u125 u126 u127 u128 u129 u130 u131 u132 u133 u134 u135 u136 u137 u138 u139 u140 u141 u142 u143 u144 u145 u146 u147 u148 u149 u150 u151 u152 u153 u154 u155 u156 u157 u158 u159 u160 u161 u162 u163 u164 u165 u166 u167 u168 u169 u170 u171 u172 u173 u174 u175 u176 u177 u178 u179 u180 u181 u182 u183 u184 u185 u186 u187 u188 u189 u190 u191 u192 u193 w12 hx => ?_)
            clear j1 jK
            obtain ⟨hQ12, hK12, rfl⟩ := hx
            have hQ12' := HQ10.out.kp hK12 (by omega) (by simp)
            have hP12 := HP10.out.kp (by rw [HB10.out]; exact hK12)
            have hown12 : w12.ownsRow w9.heap.size 48 7 (.slice ca cl cc) cl (chs C) := owns_keep HOWN.out (by rw [HB10.out]; exact hK12)
            have HB12 : Hid (Below w.heap.size w w12) := HW10.out.trans ((Kp.below hK12).mono (by rw [← HB10.out]; exact HW10.out.size))
            obtain ⟨dl, hdl⟩ : ∃ dl, (difs (pdState n ss m xs3 (-1)).P (PL.bfs n (fun k => PL.tg m.J k)) n).length = dl := ⟨_, rfl⟩
            have hg : ((cl : Int) != (dl : Int)) = false := by rw [bne_eq_false_iff_eq, ← hdl, HLEN.out]
            rw [hdl]
            obtain ⟨B12, hB12⟩ : ∃ B12, w12.heap.size = B12 := ⟨_, rfl⟩
            have HBB12 : Hid (w12.heap.size = B12) := hB12
            clear hdl hK12 hB12
            go_wp2_with fail
            refine law5_loop3 w12 p n B12 _ cc B7 B10 cl ca { (pdState n ss m xs3 (-1)) with P := PL.bfs n (fun k => PL.tg m.J k) } { b with pb := pb, pc := pc, nx := nx, qu := qu } _ _ C hnp q0 HBB12 hP12 hQ12' hQ12 hcl2 HCL hown12 HALL (fun i x y hx hy => chg_next HSTR.out i x y hx hy) (fun u8 u19 u20 u21 u22 u23 u24 u25 u26 u27 u28 u29 u30 u31 u32 u33 u34 u35 u36 u37 u38 u39 u40 u41 u42 u43 u44 u45 u46 u47 u48 u49 u50 u51 u52 u53 u54 u55 u56 u57 u58 u59 u60 u61 u62 u63 u64 u65 u66 u67 u68 u69 u70 u71 u72 u73 u74 u75 u76 u77 u78 u79 u80 u81 u82 u83 u84 u85 u86 u87 u88 u89 u90 u91 u92 u93 u94 u95 u96 u97 u98 u99 u100 u101 u102 u103 u104 u105 u106 u107 u108 u109 u110 u111 u112 u113 u114 u115 u116 u117 u118 u119 u120 u121 u122 u123 u124 u125 u126 u127 u128 u129 u130 u131 u132 u133 u134 u135 u136 u137 u138 u139 u140 u141 u142 u143 u144 u145 u146 u147 u148 u149 u150 u151 u152 u153 u154 u155 u156 u157 u158 u159 u160 u161 u162 u163 u164 u165 u166 u167 u168 u169 u170 u171 u172 u173 u174 u175 u176 u177 u178 u179 u180 u181 u182 u183 u184 u185 u186 u187 u188 u189 u190 u191 u192 u193 w13 hK13 => ?_)
            have HB13 : Hid (Below w.heap.size w w13) := HB12.out.trans ((Kp.below hK13).mono (by rw [← HBB12.out]; exact HB12.out.size))
            clear hQ12 hQ12' hP12 hown12 hK13
            go_wp2
            go_ret
            exact ⟨rfl, HB13.out⟩
    · have hcase : (decide ((65536 : Int) < (n : Int)) = true) ∨ (decide ((65536 : Int) < (n : Int)) = false ∧ decide ((65536 : Int) < (n1 : Int)) = true) ∨ (decide ((65536 : Int) < (n : Int)) = false ∧ decide ((65536 : Int) < (n1 : Int)) = false ∧ decide ((65536 : Int) < (n2 : Int)) = true) ∨ (decide ((65536 : Int) < (n : Int)) = false ∧ decide ((65536 : Int) < (n1 : Int)) = false ∧ decide ((65536 : Int) < (n2 : Int)) = false ∧ decide ((65536 : Int) < (n3 : Int)) = true) := by
        simp only [decide_eq_true_eq, decide_eq_false_iff_not]
        omega
      clear hq hr'
      rcases hcase with d0 | ⟨d0, d1⟩ | ⟨d0, d1, d2⟩ | ⟨d0, d1, d2, d3⟩
      · go_wp2
        go_ret
        exact ⟨rfl, Below.refl _ _⟩
      · go_wp2
        go_ret
        exact ⟨rfl, Below.refl _ _⟩
      · go_wp2
        go_ret
        exact ⟨rfl, Below.refl _ _⟩
      · go_wp2
        go_ret
        exact ⟨rfl, Below.refl _ _⟩

theorem own : ownKnob Try.prog.godebug = none := by kernel_rfl

theorem strs_of {w : World} {x : Addr} {n cap : Nat} {ss : List ByteArray} (hl : n ≤ cap) (hlen : ss.length = cap) (h : ∀ i, i < ss.length → w.cell? (x.add i) = some (.string (ss.getD i ByteArray.empty))) : ArgStrs w (some x) n (ss.take n) := by
  refine ⟨by rw [List.length_take]; omega, fun h0 => ?_⟩
  have hx := h 0 (by omega)
  obtain ⟨b, o, sp⟩ := x
  have hsp : sp = none := by
    cases sp with
    | none => rfl
    | some q =>
      simp only [Addr.add, if_true, World.cell?] at hx
      split at hx <;> simp at hx
  subst hsp
  refine ⟨b, o, rfl, ?_, fun i hi => ?_⟩
  · rw [Addr.add_lit] at hx
    exact World.block_lt_of_cell? w _ hx
  · rw [List.length_take] at hi
    have := h i (by omega)
    rw [Addr.add_lit] at this
    rw [this, List.getElem_take, List.getD_eq_getElem?_getD, List.getElem?_eq_getElem (by omega)]
    rfl
theorem ints_of {w : World} {x : Addr} {n cap : Nat} {ss : List Int} (hl : n ≤ cap) (hlen : ss.length = cap) (h : ∀ i, i < ss.length → w.cell? (x.add i) = some (.int .i64 (ss.getD i 0))) : ArgInts w (some x) n (ss.take n) := by
  refine ⟨by rw [List.length_take]; omega, fun h0 => ?_⟩
  have hx := h 0 (by omega)
  obtain ⟨b, o, sp⟩ := x
  have hsp : sp = none := by
    cases sp with
    | none => rfl
    | some q =>
      simp only [Addr.add, if_true, World.cell?] at hx
      split at hx <;> simp at hx
  subst hsp
  refine ⟨b, o, rfl, ?_, fun i hi => ?_⟩
  · rw [Addr.add_lit] at hx
    exact World.block_lt_of_cell? w _ hx
  · rw [List.length_take] at hi
    have := h i (by omega)
    rw [Addr.add_lit] at this
    rw [this, List.getElem_take, List.getD_eq_getElem?_getD, List.getElem?_eq_getElem (by omega)]
    rfl

/-! ### THE ROW's STEP (the guide's frame, in the form with 'Below') -/
set_option maxRecDepth 100000 in
theorem lifted (os : Os) (started : os.Started) (H : Type) (enc : TypeId × Value → H) :
    ReturnsInHanded {} Try.checked os 5 .any (Rows.fnWalkReportsExactlyTheChangedPathsSpec.pre6 enc Try.prog Try.f5 Rows.fnWalkReportsExactlyTheChangedPathsRow.domain false) (Rows.fnWalkReportsExactlyTheChangedPathsSpec.post enc Try.prog Try.f5 false true false false) := by
  refine returnsInHanded_of_change (C := Try.checked) own started (by kernel_rfl) Try.func5
    (ChangeSpec.witness6 (enc := enc) (C := Try.checked) false ⟨#[], #[.slice none 0 0, .slice none 0 0, .slice none 0 0, .slice none 0 0], []⟩ 8 (by kernel_rfl) (by kernel_rfl) (by kernel_rfl) (by kernel_rfl)) ?_
  intro W base args ds gs before hval0 hW hcnd _
  have hval : ∀ (j : Nat) t v, Try.f5.params[j]? = some t → args[j]? = some v → Value.okWide Try.prog W .any base t v := hval0
  have hW' := hW
  obtain ⟨p, q, hA0, hV, rfl, hfz, hnd⟩ := hW
  have hA : DataW.TrodAll enc Try.prog W 0 (fun _ => true) true Try.f5.params.toList args.toList ds p := hA0
  rw [Try.params5] at hA hval
  obtain ⟨v0, vs0, d0, ds0, p0, q0, hargs, rfl, rfl, h0, r0⟩ := trodAll_cons hA
  obtain ⟨v1, vs1, d1, ds1, p1, q1, rfl, rfl, rfl, h1, r1⟩ := trodAll_cons r0
  obtain ⟨v2, vs2, d2, ds2, p2, q2, rfl, rfl, rfl, h2, r2⟩ := trodAll_cons r1
  obtain ⟨v3, vs3, d3, ds3, p3, q3, rfl, rfl, rfl, h3, r3⟩ := trodAll_cons r2
  obtain ⟨rfl, rfl, rfl⟩ := trodAll_nil r3
  obtain rfl : args = #[v0, v1, v2, v3] := by cases args; simp_all
  obtain ⟨rfl, rfl⟩ := trodVars_none hV
  obtain ⟨a0, len0, cap0, rfl⟩ := okWide_slice Try.underlying22 (hval 0 22 v0 rfl rfl)
  obtain ⟨a1, len1, cap1, rfl⟩ := okWide_slice Try.underlying23 (hval 1 23 v1 rfl rfl)
  obtain ⟨a2, len2, cap2, rfl⟩ := okWide_slice Try.underlying23 (hval 2 23 v2 rfl rfl)
  obtain ⟨a3, len3, cap3, rfl⟩ := okWide_slice Try.underlying23 (hval 3 23 v3 rfl rfl)
  have k0 := h0
  have lt0 : ∀ x ∈ p0, x.block < W.heap.size := by obtain ⟨m, hm⟩ := k0; exact DataW.trod_lt m _ _ _ hm
  have k1 := h1
  have lt1 : ∀ x ∈ p1, x.block < W.heap.size := by obtain ⟨m, hm⟩ := k1; exact DataW.trod_lt m _ _ _ hm
  have k2 := h2
  have lt2 : ∀ x ∈ p2, x.block < W.heap.size := by obtain ⟨m, hm⟩ := k2; exact DataW.trod_lt m _ _ _ hm
  have k3 := h3
  have lt3 : ∀ x ∈ p3, x.block < W.heap.size := by obtain ⟨m, hm⟩ := k3; exact DataW.trod_lt m _ _ _ hm
  obtain ⟨ss, w0, hl0, hss⟩ : ∃ ss, ArgStrs W a0 len0 ss ∧ len0 ≤ maxLen ∧ ∀ (i : Nat) (h : i < ss.length), ss[i].size ≤ maxLen := by
    obtain ⟨fuel, hf⟩ := h0
    rcases open_strings Try.underlying22 Try.underlying9 (by kernel_rfl) hf with ⟨hcs, _⟩ | ⟨x, l, cp, ss, hcs, _, hl, hm, hz, _, hcell, hws⟩
    · simp [Value.cells] at hcs
      obtain ⟨rfl, rfl, rfl⟩ := hcs
      exact ⟨[], ⟨rfl, fun e => by omega⟩, Nat.zero_le _, fun i h => by simp at h⟩
    · simp [Value.cells] at hcs
      obtain ⟨rfl, rfl, rfl⟩ := hcs
      simp only [if_true] at hz
      exact ⟨ss.take len0, strs_of hl hz hcell, Nat.le_trans hl hm, fun i h => hws _ (List.mem_of_mem_take (List.getElem_mem h))⟩
  obtain ⟨xs1, w1, hl1⟩ : ∃ xs, ArgInts W a1 len1 xs ∧ len1 ≤ maxLen := by
    obtain ⟨fuel, hf⟩ := h1
    rcases open_ints Try.underlying23 Try.underlying3 (by kernel_rfl) hf with ⟨hcs, _⟩ | ⟨x, l, cp, ss, hcs, _, hl, hm, hz, _, hcell, hws⟩
    · simp [Value.cells] at hcs
      obtain ⟨rfl, rfl, rfl⟩ := hcs
      exact ⟨[], ⟨rfl, fun e => by omega⟩, Nat.zero_le _⟩
    · simp [Value.cells] at hcs
      obtain ⟨rfl, rfl, rfl⟩ := hcs
      simp only [if_true] at hz
      exact ⟨ss.take len1, ints_of hl hz hcell, Nat.le_trans hl hm⟩
  obtain ⟨xs2, w2, hl2⟩ : ∃ xs, ArgInts W a2 len2 xs ∧ len2 ≤ maxLen := by
    obtain ⟨fuel, hf⟩ := h2
    rcases open_ints Try.underlying23 Try.underlying3 (by kernel_rfl) hf with ⟨hcs, _⟩ | ⟨x, l, cp, ss, hcs, _, hl, hm, hz, _, hcell, hws⟩
    · simp [Value.cells] at hcs
      obtain ⟨rfl, rfl, rfl⟩ := hcs
      exact ⟨[], ⟨rfl, fun e => by omega⟩, Nat.zero_le _⟩
    · simp [Value.cells] at hcs
      obtain ⟨rfl, rfl, rfl⟩ := hcs
      simp only [if_true] at hz
      exact ⟨ss.take len2, ints_of hl hz hcell, Nat.le_trans hl hm⟩
  obtain ⟨xs3, w3, hl3⟩ : ∃ xs, ArgInts W a3 len3 xs ∧ len3 ≤ maxLen := by
    obtain ⟨fuel, hf⟩ := h3
    rcases open_ints Try.underlying23 Try.underlying3 (by kernel_rfl) hf with ⟨hcs, _⟩ | ⟨x, l, cp, ss, hcs, _, hl, hm, hz, _, hcell, hws⟩
    · simp [Value.cells] at hcs
      obtain ⟨rfl, rfl, rfl⟩ := hcs
      exact ⟨[], ⟨rfl, fun e => by omega⟩, Nat.zero_le _⟩
    · simp [Value.cells] at hcs
      obtain ⟨rfl, rfl, rfl⟩ := hcs
      simp only [if_true] at hz
      exact ⟨ss.take len3, ints_of hl hz hcell, Nat.le_trans hl hm⟩
  clear hA0 hval0
  refine (walk a0 len0 cap0 a1 len1 cap1 a2 len2 cap2 a3 len3 cap3 ss xs1 xs2 xs3 W hl0 hl1 hl2 hl3 hss w0 w1 w2 w3).mono fun e W' ⟨he, bel⟩ => ?_
  subst he
  exact ⟨_, rfl, _, _, _, [], _, [], hW', trodAll_mk1 (shut_bool Try.underlying4 _), (trodAll_cons_mk (Below.trod laidOut (by kernel_rfl) (of_decide_eq_true (by kernel_rfl)) k0 bel lt0) (trodAll_cons_mk (Below.trod laidOut (by kernel_rfl) (of_decide_eq_true (by kernel_rfl)) k1 bel lt1) (trodAll_cons_mk (Below.trod laidOut (by kernel_rfl) (of_decide_eq_true (by kernel_rfl)) k2 bel lt2) (trodAll_cons_mk (Below.trod laidOut (by kernel_rfl) (of_decide_eq_true (by kernel_rfl)) k3 bel lt3) trodAll_mk0)))), rfl, bel.frame _, fun h => by cases h⟩

theorem jf0 : (Rows.fnWalkReportsExactlyTheChangedPathsRow.wf (OpenSpec.ofChange Rows.fnWalkReportsExactlyTheChangedPathsSpec)) = true := by kernel_rfl
theorem jf3 : (Try.f5.params.all (Try.prog.readableRec ·)) = true := by kernel_rfl
theorem jf4 : (namedTie Try.prog Rows.fnWalkReportsExactlyTheChangedPathsRow.named Rows.fnWalkReportsExactlyTheChangedPathsSpec.vars) = true := by kernel_rfl
theorem jf5 : ((Rows.fnWalkReportsExactlyTheChangedPathsRow.stops == [])) = true := by kernel_rfl
theorem jf7 : ((Rows.fnWalkReportsExactlyTheChangedPathsRow.knobs == [])) = true := by kernel_rfl
theorem jf9 : ((Rows.fnWalkReportsExactlyTheChangedPathsRow.inPlace == Try.prog.inPlace 5)) = true := by kernel_rfl
theorem jf10 : ((Rows.fnWalkReportsExactlyTheChangedPathsRow.unfollowed == Try.prog.unfollowed 5)) = true := by kernel_rfl
theorem jf11 : ((Rows.fnWalkReportsExactlyTheChangedPathsRow.recurses == Try.prog.recurses 5)) = true := by kernel_rfl
theorem jf12 : ((Rows.fnWalkReportsExactlyTheChangedPathsRow.named == Try.prog.varsNamed 5)) = true := by kernel_rfl
theorem jf13 : ((Rows.fnWalkReportsExactlyTheChangedPathsRow.maps == (Try.f5.params.toList ++ Rows.fnWalkReportsExactlyTheChangedPathsSpec.plain.varTypes Try.prog).any (Try.prog.mapsRec ·))) = true := by kernel_rfl
theorem jf14 : ((Rows.fnWalkReportsExactlyTheChangedPathsRow.ifaces == (Try.f5.params.toList ++ Rows.fnWalkReportsExactlyTheChangedPathsSpec.plain.varTypes Try.prog).any (Try.prog.ifacesRec ·))) = true := by kernel_rfl
theorem jf15 : ((Rows.fnWalkReportsExactlyTheChangedPathsRow.mapsOut == Try.prog.mapsAmong Try.f5.resultTypes.toList)) = true := by kernel_rfl
theorem jf16 : ((Rows.fnWalkReportsExactlyTheChangedPathsRow.loops == (Try.f5.params.toList ++ Rows.fnWalkReportsExactlyTheChangedPathsSpec.plain.varTypes Try.prog).any (Try.prog.loopsFrom ·))) = true := by kernel_rfl
theorem jf17 : ((Rows.fnWalkReportsExactlyTheChangedPathsRow.wideKeys == (Try.f5.params.toList ++ Rows.fnWalkReportsExactlyTheChangedPathsSpec.plain.varTypes Try.prog ++ Try.f5.resultTypes.toList).any (Try.prog.wideKeysFrom ·))) = true := by kernel_rfl
theorem jf18 : (Rows.fnWalkReportsExactlyTheChangedPathsSpec.vars.all (Try.prog.varReadable ·)) = true := by kernel_rfl
theorem jf19 : (Try.f5.resultTypes.all (fun t => Try.prog.readableRec t && decide (t < Try.prog.types.size))) = true := by kernel_rfl
theorem jf20 : ((Rows.fnWalkReportsExactlyTheChangedPathsRow.ifacesOut == Try.f5.resultTypes.toList.any (Try.prog.ifacesRec ·))) = true := by kernel_rfl
theorem jf21 : ((Rows.fnWalkReportsExactlyTheChangedPathsRow.loopsOut == Try.f5.resultTypes.toList.any (Try.prog.loopsFrom ·))) = true := by kernel_rfl
theorem jf23 : (Rows.fnWalkReportsExactlyTheChangedPathsRow.shortTexts.isNone) = true := by kernel_rfl
theorem jf28 : ((Rows.fnWalkReportsExactlyTheChangedPathsRow.kinds == (if Rows.fnWalkReportsExactlyTheChangedPathsRow.domain.isEmpty then [] else Try.f5.params.toList.map fun t => match Try.prog.underlying t with | some (.int k) => some k | _ => none))) = true := by kernel_rfl
theorem jf29 : ((Rows.fnWalkReportsExactlyTheChangedPathsRow.pinned == Rows.fnWalkReportsExactlyTheChangedPathsRow.pinnedBy)) = true := by kernel_rfl
theorem jf30 : ((Rows.fnWalkReportsExactlyTheChangedPathsRow.veiled == (Try.f5.params.toList ++ Rows.fnWalkReportsExactlyTheChangedPathsSpec.plain.varTypes Try.prog ++ Try.f5.resultTypes.toList).any (Try.prog.veiledRec ·))) = true := by kernel_rfl
theorem jf31 : (Rows.fnWalkReportsExactlyTheChangedPathsRow.veiledFits Try.prog Try.f5.params.toList (Try.f5.params.toList ++ Rows.fnWalkReportsExactlyTheChangedPathsSpec.plain.varTypes Try.prog ++ Try.f5.resultTypes.toList)) = true := by kernel_rfl
set_option maxRecDepth 1000000 in
theorem closed : joinedFacts Try.prog 5 Try.f5 Rows.fnWalkReportsExactlyTheChangedPathsSpec Rows.fnWalkReportsExactlyTheChangedPathsRow = true := (and_t (and_t (and_t (and_t (and_t (and_t (and_t (and_t (and_t (and_t (and_t (and_t (and_t (and_t (and_t (and_t (and_t (and_t (and_t (and_t (and_t (and_t (and_t (and_t (and_t (and_t (and_t (and_t (and_t (and_t (and_t jf0 laidOut) pMaps) jf3) jf4) jf5) pStops) jf7) pKnobs) jf9) jf10) jf11) jf12) jf13) jf14) jf15) jf16) jf17) jf18) jf19) jf20) jf21) pPlain) jf23) pHeard) pEnter) pLifts) pMake) jf28) jf29) jf30) jf31)
theorem over : Rows.fnWalkReportsExactlyTheChangedPathsRow.holds Try.pinned (OpenSpec.ofChange Rows.fnWalkReportsExactlyTheChangedPathsSpec) :=
  OpenClaim.holds_of_wide 5 Try.f5 rfl rfl rfl rfl rfl rfl rfl ⟨rfl, rfl, rfl, rfl, rfl⟩ rfl rfl rfl rfl rfl (by kernel_rfl) Try.func5 closed
    (of_decide_eq_true (by kernel_rfl)) (by unfold Func.isWrapper; first | (rw [if_pos (by decide +kernel)]; kernel_rfl) | (rw [if_neg (by decide +kernel)]; exact ⟨rfl, rfl⟩))
    (fun os started H enc _ => lifted os started H enc)

/-- THE STATEMENT -/
theorem proved : Rows.FnWalkReportsExactlyTheChangedPathsSaid :=
  over

end Go.Proofs.Qxb6600010a.fnWalkReportsExactlyTheChangedPaths
