/-
  THE LAW FnCompactKeepsEveryHeldNodeByName: the walk and the row.
-/
import Derived.Test.Qxb6600010aBuild
import Derived.Test.Qxb6600010aLaw6L
import Derived.Test.Qxb6600010aFacts
import Derived.SliceStrings
import Derived.ProofKit
import Derived.OpenShut
import Derived.ShutString
import Derived.ChangeOld
import Derived.ChangeSlices
import Derived.Below
namespace Go.Proofs.Qxb6600010a.fnCompactKeepsEveryHeldNodeByName
open Go.ChangeShapes Go.WideShapes Go.ChangeAt Go.RowKit
open Go.ChangeMaps (open_string shut_string)
set_option linter.unusedVariables false
set_option linter.unusedSimpArgs false
attribute [local go_sem ↓] Go.wp_at_zero Go.wp_at_succ
set_option maxHeartbeats 20000000 in
set_option maxRecDepth 100000 in
theorem walk (ao : Option Addr) (n c : Nat) (a1 : Option Addr) (n1 c1 : Nat) (a2 : Option Addr) (n2 c2 : Nat) (ss : List ByteArray) (xs1 xs2 : List Int) (w : World) (hn : n ≤ maxLen) (h1 : n1 ≤ maxLen) (h2 : n2 ≤ maxLen) (hs : ∀ (i : Nat) (h : i < ss.length), ss[i].size ≤ maxLen)
    (h : ArgStrs w ao n ss) (g1 : ArgInts w a1 n1 xs1) (g2 : ArgInts w a2 n2 xs2) :
    Calls Try.prog 6 #[.slice ao n c, .slice a1 n1 c1, .slice a2 n2 c2] w fun e w' => e = .returned (.bool true) ∧ Below w.heap.size w w' := by
  have cb := bound24_any ao n c a1 n1 c1 a2 n2 c2 ss w hn h1 h2 hs h
  have HH : Hid (ArgStrs w ao n ss) := h
  have G1 : Hid (ArgInts w a1 n1 xs1) := g1
  have G2 : Hid (ArgInts w a2 n2 xs2) := g2
  have HSZ : Hid (∀ k : Nat, (ss[k]?.getD ⟨#[]⟩).size ≤ maxLen) := by
    intro k
    by_cases hk : k < ss.length
    · rw [List.getElem?_eq_getElem hk]; exact hs k hk
    · rw [List.getElem?_eq_none (by omega)]; exact Nat.zero_le _
  unfold maxLen at hn h1 h2
  clear hs h g1 g2
  go_enter Try.func6, Try.ntmps6
  go_wp2_with fail
  refine cb.mono ?_
  rintro e w' ⟨r, rfl, hr, rfl⟩
  clear cb
  cases r with
  | false =>
    go_wp2
    go_ret
    exact ⟨rfl, Below.refl _ _⟩
  | true =>
    have hr' := hr rfl
    clear hr
    by_cases hq : n ≤ 65536 ∧ n1 ≤ 65536 ∧ n2 ≤ 65536
    · obtain ⟨q0, q1, q2⟩ := hq
      have d0 : decide ((65536 : Int) < (n : Int)) = false := by simp <;> omega
      have d1 : decide ((65536 : Int) < (n1 : Int)) = false := by simp <;> omega
      have d2 : decide ((65536 : Int) < (n2 : Int)) = false := by simp <;> omega
      have c12 := bytes_any ao n c (n1 + n2) ss w (by omega) q0 (by omega) HH.out
      rw [Int.natCast_add] at c12
      go_wp2_with fail
      refine c12.mono ?_
      rintro e w' ⟨r, rfl, rfl⟩
      clear c12
      by_cases hrr : 1048576 < r
      · have e1 : decide ((1048576 : Int) < r) = true := by simp <;> omega
        go_wp2
        go_ret
        exact ⟨rfl, Below.refl _ _⟩
      · have e1 : decide ((1048576 : Int) < r) = false := by simp <;> omega
        by_cases hn0 : n = 0
        · subst hn0
          go_wp2
          go_ret
          exact ⟨rfl, Below.refl _ _⟩
        · have e2 : ((n : Int) == 0) = false := by rw [beq_eq_false_iff_ne]; omega
          have hnp : 0 < n := by omega
          clear hn0 hrr
          go_wp2_with fail
          refine (cloneStrs_any ao n c ss w q0 hnp HH.out).mono ?_
          rintro e w1 ⟨rfl, hN1, hB1⟩
          have hBB1 : Below w.heap.size w w1 := hB1
          go_wp2_with fail
          refine (cloneInts_any a1 n1 c1 xs1 w1 q1 (G1.out.below hBB1)).mono ?_
          rintro e w2 ⟨v1, rfl, hI1, hB2⟩
          have hBB2 : Below w.heap.size w w2 := hBB1.trans (hB2.mono hBB1.size)
          go_wp2_with fail
          refine (cloneInts_any a2 n2 c2 xs2 w2 q2 (G2.out.below hBB2)).mono ?_
          rintro e w3 ⟨v2, rfl, hI2, hB3⟩
          have hBB3 : Below w.heap.size w w3 := hBB2.trans (hB3.mono hBB2.size)
          have hl0 : ss.length = n := HH.out.len
          have hl1 : xs1.length = n1 := G1.out.len
          have hl2 : xs2.length = n2 := G2.out.len
          obtain ⟨nb, hnb⟩ : ∃ nb, w.heap.size = nb := ⟨_, rfl⟩
          rw [hnb] at hN1
          have hb2L : Below w1.heap.size w1 w3 := (hB2.trans (hB3.mono (hB2.size)))
          have hN4 : Row w3 nb 9 (strs ss) := hN1.below hb2L hN1.lt
          have hJ1 := (hI1.below hB3)
          have hJ2 := hI2
          have HNB : Hid (w.heap.size = nb) := hnb
          have HB14 : Hid (Below w.heap.size w w3) := hBB3
          have HN4 : Hid (Row w3 nb 9 (strs ss)) := hN4
          rw [hnb]
          have hbd := build_any w3 nb ss v1 v2 xs1 xs2 n hnp q0 hl0 hN4 hJ1 hJ2 (by omega) (by omega)
          have HL : Hid (ss.length = n) := hl0
          clear hN1 hN4 hb2L hnb HH d0 e1 e2 hr' hI1 hJ1 G1 d1 hl1 hI2 hJ2 G2 d2 hl2 hl0 hB1 hBB1 hB2 hBB2 hB3 hBB3
          go_wp2_with fail
          refine hbd.mono ?_
          rintro e w5 hpost
          clear hbd
          rcases hpost with ⟨rfl, hK5⟩ | ⟨mb, m, rfl, hM, hA, hK5⟩
          · have HB5 : Hid (Below w.heap.size w w5) := HB14.out.trans ((Kp.below hK5).mono HB14.out.size)
            clear hK5
            go_wp2
            go_ret
            exact ⟨rfl, HB5.out.trans ((Below.refl _ _).alloc (HB5.out.size) _)⟩
          · unfold meshV slc
            have HM : Hid (PL.PMesh ss n m) := hM
            have HA : Hid (MeshAt w5 n mb m) := hA
            have HK5 : Hid (Kp w3.heap.size [] w3 w5) := hK5
            clear hM hA hK5
            go_upto_region 13 with fail
            obtain ⟨mp, hmp⟩ : ∃ mp, w5.heap.size = mp := ⟨_, rfl⟩
            have hms := row_new w5 [.int .i64 (n : Int), .slice (some ⟨mb.rb, 0, none⟩) n n, .slice (some ⟨mb.tb, 0, none⟩) n n, .map (some mb.cb), .slice (some ⟨mb.jb, 0, none⟩) n n, .slice (some ⟨mb.lb, 0, none⟩) n n, .slice (some ⟨mb.hb, 0, none⟩) n n, .int .i64 (PL.hc m.S.T m.ls n : Int)] 32
            have hK6 : Kp mp [] w5 (w5.alloc (Obj.cells #[.int .i64 (n : Int), .slice (some ⟨mb.rb, 0, none⟩) n n, .slice (some ⟨mb.tb, 0, none⟩) n n, .map (some mb.cb), .slice (some ⟨mb.jb, 0, none⟩) n n, .slice (some ⟨mb.lb, 0, none⟩) n n, .slice (some ⟨mb.hb, 0, none⟩) n n, .int .i64 (PL.hc m.S.T m.ls n : Int)] 32)) := by rw [← hmp]; exact (Kp.refl _ _ _).alloc (Nat.le_refl _) _
            rw [hmp] at hms ⊢
            have HMP : Hid (w5.heap.size = mp) := hmp
            have hs6 : (w5.alloc (Obj.cells #[.int .i64 (n : Int), .slice (some ⟨mb.rb, 0, none⟩) n n, .slice (some ⟨mb.tb, 0, none⟩) n n, .map (some mb.cb), .slice (some ⟨mb.jb, 0, none⟩) n n, .slice (some ⟨mb.lb, 0, none⟩) n n, .slice (some ⟨mb.hb, 0, none⟩) n n, .int .i64 (PL.hc m.S.T m.ls n : Int)] 32)).heap.size = mp + 1 := by rw [World.size_alloc, hmp]
            obtain ⟨hc, hhc⟩ : ∃ hc, PL.hc m.S.T m.ls n = hc := ⟨_, rfl⟩
            have HHC := hid_mk hhc
            rw [hhc] at hms hK6 hs6 ⊢
            generalize w5.alloc (Obj.cells #[.int .i64 (n : Int), .slice (some ⟨mb.rb, 0, none⟩) n n, .slice (some ⟨mb.tb, 0, none⟩) n n, .map (some mb.cb), .slice (some ⟨mb.jb, 0, none⟩) n n, .slice (some ⟨mb.lb, 0, none⟩) n n, .slice (some ⟨mb.hb, 0, none⟩) n n, .int .i64 (hc : Int)] 32) = w6 at *
            have hsz4 : w3.heap.size ≤ mp := by rw [← hmp]; exact HK5.out.size
            have hK46 : Kp w3.heap.size [] w3 w6 := HK5.out.trans (hK6.mono hsz4 (by simp))
            have hA6 : MeshAt w6 n mb m := HA.out.kp (by rw [hmp]; exact hK6)
            have hN6 : Row w6 nb 9 (strs ss) := HN4.out.kp hK46 HN4.out.lt (by simp)
            have HB6 : Hid (Below w.heap.size w w6) := HB14.out.trans ((Kp.below hK46).mono HB14.out.size)
            have hnw : w.heap.size ≤ mp := Nat.le_trans HB14.out.size hsz4
            have HA6 := hid_mk hA6
            have HN6 := hid_mk hN6
            have HMS : Hid (Row w6 mp 32 [.int .i64 (n : Int), .slice (some ⟨mb.rb, 0, none⟩) n n, .slice (some ⟨mb.tb, 0, none⟩) n n, .map (some mb.cb), .slice (some ⟨mb.jb, 0, none⟩) n n, .slice (some ⟨mb.lb, 0, none⟩) n n, .slice (some ⟨mb.hb, 0, none⟩) n n, .int .i64 (hc : Int)]) := hms
            have m0 := hms.cell (i := 0) rfl
            have m1 := hms.cell (i := 1) rfl
            have m2 := hms.cell (i := 2) rfl
            have m3 := hms.cell (i := 3) rfl
            have m4 := hms.cell (i := 4) rfl
            have m5 := hms.cell (i := 5) rfl
            have m6 := hms.cell (i := 6) rfl
            have m7 := hms.cell (i := 7) rfl
            have HS6 : Hid (w6.heap.size = mp + 1) := hs6
            have hmb6 := hA6
            clear hms hK6 hs6 hmp hK46 hA6 hN6 HA HN4 HK5 HB14 hmb6 hhc
            have hst := state_any w6 n ss nb m mb (.slice none 0 0) [] (-1) hc HM.out HA6.out HN6.out ⟨none, rfl, fun h => by simp at h⟩ (by simp) (by omega) (by omega) HSZ.out
            unfold meshV slc at hst
            go_wp2_with fail
            refine hst.mono ?_
            rintro e w7 ⟨p, b, rfl, hPs, hK7, hFr⟩
            clear hst m0 m1 m2 m3 m4 m5 m6 m7
            rw [HS6.out] at hK7 hFr
            have hwk := state_walk HM.out hPs hFr
            have hsin := s_in hPs hFr
            have HFR := hid_mk hFr
            have HK7 := hid_mk hK7
            have HSIN := hid_mk hsin
            have hs7 : mp + 1 ≤ w7.heap.size := by rw [← HS6.out]; exact hK7.size
            have hpp := hFr.pp
            clear hPs hFr hK7 hsin
            go_wp2_with fail
            refine hwk.mono ?_
            rintro e w8 ⟨cv, nx, qu, pb, pc, C, rfl, hP8, hpb, hperm, hsrt, hown, hK8⟩
            clear hwk hperm hsrt hown hpb
            have hK68 : Kp (mp + 1) [] w6 w8 := HK7.out.trans (hK8.mono hs7 (fun q h1 h2 => by simp at h2; omega))
            have hms8 := HMS.out.kp hK68 (by omega) (by simp)
            have m0 := hms8.cell (i := 0) rfl
            have hmk := run_make_wide (P := Try.prog) 43 45 _ 3 40 Try.underlying43 info45 .i64 .i64 n (by omega) (by omega)
            have HP8 : Hid (PsAt w8 p n (pdW n ss m [] (-1)) { b with pb := pb, pc := pc, nx := nx, qu := qu }) := hP8
            have HK68 := hid_mk hK68
            have HMS8 := hid_mk hms8
            have hs8 : w7.heap.size ≤ w8.heap.size := hK8.size
            clear hP8 hK68 hms8 hK8
            go_wp2_with fail
            have HFIN : Hid (PL.BFin n (fun k => PL.tg m.J k) (PL.rkf m) (PL.bfs n (fun k => PL.tg m.J k))) := PL.bfs_fin (PL.gr_of HM.out)
            obtain ⟨B8, hB8⟩ : ∃ B8, w8.heap.size = B8 := ⟨_, rfl⟩
            have HB8 := hid_mk hB8
            rw [hB8]
            rw [hB8] at hs8
            have j1 : QRow (w8.alloc (Obj.cells (madeCells #[Value.string ⟨#[]⟩, Value.int IntKind.i64 0, Value.string ⟨#[]⟩] (n * 3)) 45)) B8 n (pre 0 (fun k => nmd (pdW n ss m [] (-1)).nm ((pdW n ss m [] (-1)).P k)) np0) := (qrow_made w8 B8 n hB8).congr (fun k hk => by simp [pre])
            have jK : Kp B8 [] w8 (w8.alloc (Obj.cells (madeCells #[Value.string ⟨#[]⟩, Value.int IntKind.i64 0, Value.string ⟨#[]⟩] (n * 3)) 45)) := by rw [← hB8]; exact (Kp.refl _ _ _).alloc (Nat.le_refl _) _
            generalize w8.alloc (Obj.cells (madeCells #[Value.string ⟨#[]⟩, Value.int IntKind.i64 0, Value.string ⟨#[]⟩] (n * 3)) 45) = w9 at *
            clear hB8 m0 hmk
            refine law6_loop1 w8 w9 p n B8 B8 _ _ hnp q0 HB8 HP8 (fun k hk => ⟨.inr ⟨(HFIN.out.lt k).1, (HFIN.out.lt k).2.1⟩, by have := (HFIN.out.lt k).2.2; show (PL.bfs n (fun k => PL.tg m.J k) k).hops ≤ _; omega⟩) (Nat.le_refl _) j1 jK (fun u12 u13 u14 u15 u16 u17 u18 u19 u20 u21 u22 u23 u24 u25 u26 u27 u28 u29 u30 u31 u32 u33 u34 u35 u36 u37 u38 u39 u40 u41 u42 u43 u44 u45 u46 u47 u48 u49 u50 u51 u52 u53 u54 u55 u56 u57 u58 u59 u60 u61 u62 u63 u64 u65 u66 u67 u68 u69 u70 u71 u72 u73 u74 u75 u76 u77 u78 u79 u80 u81 u82 u83 u84 u85 u86 u87 u88 u89 u90 u91 u92 u93 u94 u95 u96 u97 u98 u99 u100 u101 u102 u103 u104 u105 u106 u107 u108 u109 u110 u111 u112 u113 u114 u115 u116 u117 u118 u119 u120 u121 u122 u123 u124 u125 u126 u127 u128 u129 u130 u131 u132 u133 u134 u135 u136 u137 u138 u139 u140 u141 u142 u143 u144 u145 u146 u147 u148 u149 u150 u151 u152 u153 u154 u155 u156 u157 u158 u159 u160 u161 u162 u163 u164 u165 u166 u167 u168 u169 u170 u171 u172 u173 u174 u175 u176 u177 u178 u179 u180 u181 u182 u183 u184 u185 u186 u187 u188 u189 u190 u191 u192 u193 u194 u195 u196 u197 u198 u199 u200 u201 u202 u203 u204 u205 u206 u207 u208 u209 u210 u211 u212 u213 u214 u215 u216 u217 u218 u219 u220 u221 u222 u223 u224 u225 u226 u227 u228 u229 u230 u231 u232 u233 u234 u235 u236 u237 u238 u239 u240 u241 u242 u243 u244 u245 u246 u247 u248 u249 u250 u251 u252 u253 u254 u255 u256 u257 u258 u259 u260 u261 u262 u263 w10 hx => ?_)
            clear j1 jK
            obtain ⟨hQ10, hK10⟩ := hx
            have hP10 := HP8.out.kp (by rw [HB8.out]; exact hK10)
            obtain ⟨B10, hB10⟩ : ∃ B10, w10.heap.size = B10 := ⟨_, rfl⟩
            have h810 : B8 ≤ B10 := by rw [← hB10, ← HB8.out]; exact hK10.size
            have hcp := zzcompact_any w10 p n (PL.hc m.S.T m.ls n) (pdW n ss m [] (-1)) _ (fun k => PL.tg m.S.T k) hP10 (cpIn_of (B := 0) (p := 0) HM.out (good_w HM.out []) HSZ.out (fun i j g hi hj h1 h2 => HFR.out.ji i j g hi hj h1 h2))
            rw [HHC.out] at hcp
            have hK610 : Kp (mp + 1) [] w6 w10 := HK68.out.trans (hK10.mono (by omega) (by simp))
            have HK610 := hid_mk hK610
            have HB10 := hid_mk hB10
            have HQ10 := hid_mk hQ10
            clear hP10 hQ10 hK10 hK610 hB10
            go_wp2_with fail
            refine hcp.mono ?_
            rintro e w11 ⟨rfl, b2, hP11, hK11⟩
            rw [HB10.out] at hK11
            have hin : ∀ x, x ∈ p :: tab n (fun k => (b.jb k).getD p) → x ∈ p :: b.mb :: tab n (fun k => (b.jb k).getD p) := fun x hx => by
              simp only [List.mem_cons] at hx ⊢
              rcases hx with h | h
              · exact .inl h
              · exact .inr (.inr h)
            have hlt8 : B8 < B10 := by rw [← HB10.out]; exact HQ10.out.lt
            have hK11' : Kp (mp + 1) [] w10 w11 := kp_out hK11 (by omega) (fun x hx => (HSIN.out x (hin x hx)).1)
            have hQ11 := HQ10.out.kp hK11 hlt8 (fun hm => by have := (HSIN.out _ (hin _ hm)).2; omega)
            have HK611 : Hid (Kp (mp + 1) [] w6 w11) := HK610.out.trans hK11'
            have hk6 := k6_of HM.out (good_w HM.out [])
            rw [HHC.out] at hk6
            have HK6 : Hid (K6 n hc (fun k => ss[k]?.getD ⟨#[]⟩) m (PL.bfs n (fun k => PL.tg m.J k)) (pdC (pdW n ss m [] (-1)) n hc)) := hk6
            have HQ11 : Hid (QRow w11 B8 n (fun k => nmd (fun k => ss[k]?.getD ⟨#[]⟩) (PL.bfs n (fun k => PL.tg m.J k) k))) := hQ11
            have HP11 := hid_mk hP11
            have hms11 := HMS.out.kp HK611.out (by omega) (by simp)
            have m7 := hms11.cell (i := 7) rfl
            have hcn := HK6.out.le
            have HC27 : Hid (∀ q, Calls Try.prog 27 #[.pointer (some ⟨p, 0, none⟩)] (w11.drewN q) fun e w' => e = .returned (.int .i64 (hc : Int)) ∧ w' = w11.drewN q) := fun q => numbersLen_any (w11.drewN q) p hc _ b2 (HP11.out.kp ((Kp.refl _ _ _).drewN q))
            have HC26 : Hid (∀ q, Calls Try.prog 26 #[.pointer (some ⟨p, 0, none⟩)] (w11.drewN q) fun e w' => e = .returned (.int .i64 0) ∧ w' = w11.drewN q) := fun q => released_any (w11.drewN q) p hc _ b2 (HP11.out.kp ((Kp.refl _ _ _).drewN q))
            have HC20 : Hid (∀ q, Calls Try.prog 20 #[.pointer (some ⟨p, 0, none⟩)] (w11.drewN q) fun e w' => e = .returned (.int .i64 (hc : Int)) ∧ w' = w11.drewN q) := fun q => len_any (w11.drewN q) p hc _ b2 (HP11.out.kp ((Kp.refl _ _ _).drewN q)) (by omega)
            clear hK11 hK11' hQ11 hk6 hP11 hcp hms11 hin HQ10 HK610 HP8 HFR HK7 HSIN HFIN HK68 HMS8
            go_upto_region 22 with fail
            go_quiet (first | (go_at_call 27; exact Calls.quiet_of_same (HC27.out _)) | (go_at_call 26; exact Calls.quiet_of_same (HC26.out _)) | (go_at_call 20; exact Calls.quiet_of_same (HC20.out _)))
            clear m7 HC27 HC26 HC20
            have hKq : Kp w11.heap.size [] w11 (w11.drewN nq) := (Kp.refl _ _ _).drewN nq
            have hPq := HP11.out.kp hKq
            have HKq : Hid (Kp (mp + 1) [] w6 (w11.drewN nq)) := HK611.out.drewN nq
            have HQq := hid_mk (HQ11.out.kp hKq HQ11.out.lt (by simp))
            have HPq := hid_mk hPq
            clear hKq hPq HK611 HQ11 HP11
            generalize w11.drewN nq = w12 at *
            go_wp2_with fail
            obtain ⟨B12, hB12⟩ : ∃ B12, w12.heap.size = B12 := ⟨_, rfl⟩
            have HB12 := hid_mk hB12
            have hl7 : nb < mp + 1 := by rw [← HS6.out]; exact HN6.out.lt
            have hA12 := HA6.out.kp (by rw [HS6.out]; exact HKq.out)
            refine law6_loop2 w12 p n hc B12 B8 nb mp _ b2 ss m mb (PL.bfs n (fun k => PL.tg m.J k)) HB12 HM hA12 HPq HK6 HSZ (HN6.out.kp HKq.out hl7 (by simp)) HQq (HMS.out.kp HKq.out (by omega) (by simp)) (fun u6 u13 u14 u15 u16 u17 u18 u19 u20 u21 u22 u23 u24 u25 u26 u27 u28 u29 u30 u31 u32 u33 u34 u35 u36 u37 u38 u39 u40 u41 u42 u43 u44 u45 u46 u47 u48 u49 u50 u51 u52 u53 u54 u55 u56 u57 u58 u59 u60 u61 u62 u63 u64 u65 u66 u67 u68 u69 u70 u71 u72 u73 u74 u75 u76 u77 u78 u79 u80 u81 u82 u83 u84 u85 u86 u87 u88 u89 u90 u91 u92 u93 u94 u95 u96 u97 u98 u99 u100 u101 u102 u103 u104 u105 u106 u107 u108 u109 u110 u111 u112 u113 u114 u115 u116 u117 u118 u119 u120 u121 u122 u123 u124 u125 u126 u127 u128 u129 u130 u131 u132 u133 u134 u135 u136 u137 u138 u139 u140 u141 u142 u143 u144 u145 u146 u147 u148 u149 u150 u151 u152 u153 u154 u155 u156 u157 u158 u159 u160 u161 u162 u163 u164 u165 u166 u167 u168 u169 u170 u171 u172 u173 u174 u175 u176 u177 u178 u179 u180 u181 u182 u183 u184 u185 u186 u187 u188 u189 u190 u191 u192 u193 u194 u195 u196 u197 u198 u199 u200 u201 u202 u203 u204 u205 u206 u207 u208 u209 u210 u211 u212 u213 u214 u215 u216 u217 u218 u219 u220 u221 u222 u223 u224 u225 u226 u227 u228 u229 u230 u231 u232 u233 u234 u235 u236 u237 u238 u239 u240 u241 u242 u243 u244 u245 u246 u247 u248 u249 u250 u251 u252 u253 u254 u255 u256 u257 u258 u259 u260 u261 u262 u263 w13 hK13 => ?_)
            have h612 : mp + 1 ≤ w12.heap.size := by rw [← HS6.out]; exact HKq.out.size
            have HB13 : Hid (Below w.heap.size w w13) := HB6.out.trans (Kp.below ((HKq.out.trans (hK13.mono (by omega) (by simp))).mono (by omega) (by simp)))
            clear hA12 hK13 hB12
            go_wp2
            go_ret
            exact ⟨rfl, HB13.out⟩
    · have hcase : (decide ((65536 : Int) < (n : Int)) = true) ∨ (decide ((65536 : Int) < (n : Int)) = false ∧ decide ((65536 : Int) < (n1 : Int)) = true) ∨ (decide ((65536 : Int) < (n : Int)) = false ∧ decide ((65536 : Int) < (n1 : Int)) = false ∧ decide ((65536 : Int) < (n2 : Int)) = true) := by
        simp only [decide_eq_true_eq, decide_eq_false_iff_not]
        omega
      clear hq hr'
      rcases hcase with d0 | ⟨d0, d1⟩ | ⟨d0, d1, d2⟩
      · go_wp2
        go_ret
        exact ⟨rfl, Below.refl _ _⟩
      · go_wp2
        go_ret
        exact ⟨rfl, Below.refl _ _⟩
      · go_wp2
        go_ret
        exact ⟨rfl, Below.refl _ _⟩

theorem own : ownKnob Try.prog.godebug = none := by kernel_rfl

theorem strs_of {w : World} {x : Addr} {n cap : Nat} {ss : List ByteArray} (hl : n ≤ cap) (hlen : ss.length = cap) (h : ∀ i, i < ss.length → w.cell? (x.add i) = some (.string (ss.getD i ByteArray.empty))) : ArgStrs w (some x) n (ss.take n) := by
  refine ⟨by rw [List.length_take]; omega, fun h0 => ?_⟩
  have hx := h 0 (by omega)
  obtain ⟨b, o, sp⟩ := x
  have hsp : sp = none := by
    cases sp with
    | none => rfl
    | some q =>
      simp only [Addr.add, if_true, World.cell?] at hx
      split at hx <;> simp at hx
  subst hsp
  refine ⟨b, o, rfl, ?_, fun i hi => ?_⟩
  · rw [Addr.add_lit] at hx
    exact World.block_lt_of_cell? w _ hx
  · rw [List.length_take] at hi
    have := h i (by omega)
    rw [Addr.add_lit] at this
    rw [this, List.getElem_take, List.getD_eq_getElem?_getD, List.getElem?_eq_getElem (by omega)]
    rfl
theorem ints_of {w : World} {x : Addr} {n cap : Nat} {ss : List Int} (hl : n ≤ cap) (hlen : ss.length = cap) (h : ∀ i, i < ss.length → w.cell? (x.add i) = some (.int .i64 (ss.getD i 0))) : ArgInts w (some x) n (ss.take n) := by
  refine ⟨by rw [List.length_take]; omega, fun h0 => ?_⟩
  have hx := h 0 (by omega)
  obtain ⟨b, o, sp⟩ := x
  have hsp : sp = none := by
    cases sp with
    | none => rfl
    | some q =>
      simp only [Addr.add, if_true, World.cell?] at hx
      split at hx <;> simp at hx
  subst hsp
  refine ⟨b, o, rfl, ?_, fun i hi => ?_⟩
  · rw [Addr.add_lit] at hx
    exact World.block_lt_of_cell? w _ hx
  · rw [List.length_take] at hi
    have := h i (by omega)
    rw [Addr.add_lit] at this
    rw [this, List.getElem_take, List.getD_eq_getElem?_getD, List.getElem?_eq_getElem (by omega)]
    rfl

/-! ### THE ROW's STEP (the guide's frame, in the form with 'Below') -/
set_option maxRecDepth 100000 in
theorem lifted (os : Os) (started : os.Started) (H : Type) (enc : TypeId × Value → H) :
    ReturnsInHanded {} Try.checked os 6 .any (Rows.fnCompactKeepsEveryHeldNodeByNameSpec.pre6 enc Try.prog Try.f6 Rows.fnCompactKeepsEveryHeldNodeByNameRow.domain false) (Rows.fnCompactKeepsEveryHeldNodeByNameSpec.post enc Try.prog Try.f6 false true false false) := by
  refine returnsInHanded_of_change (C := Try.checked) own started (by kernel_rfl) Try.func6
    (ChangeSpec.witness6 (enc := enc) (C := Try.checked) false ⟨#[], #[.slice none 0 0, .slice none 0 0, .slice none 0 0], []⟩ 8 (by kernel_rfl) (by kernel_rfl) (by kernel_rfl) (by kernel_rfl)) ?_
  intro W base args ds gs before hval0 hW hcnd _
  have hval : ∀ (j : Nat) t v, Try.f6.params[j]? = some t → args[j]? = some v → Value.okWide Try.prog W .any base t v := hval0
  have hW' := hW
  obtain ⟨p, q, hA0, hV, rfl, hfz, hnd⟩ := hW
  have hA : DataW.TrodAll enc Try.prog W 0 (fun _ => true) true Try.f6.params.toList args.toList ds p := hA0
  rw [Try.params6] at hA hval
  obtain ⟨v0, vs0, d0, ds0, p0, q0, hargs, rfl, rfl, h0, r0⟩ := trodAll_cons hA
  obtain ⟨v1, vs1, d1, ds1, p1, q1, rfl, rfl, rfl, h1, r1⟩ := trodAll_cons r0
  obtain ⟨v2, vs2, d2, ds2, p2, q2, rfl, rfl, rfl, h2, r2⟩ := trodAll_cons r1
  obtain ⟨rfl, rfl, rfl⟩ := trodAll_nil r2
  obtain rfl : args = #[v0, v1, v2] := by cases args; simp_all
  obtain ⟨rfl, rfl⟩ := trodVars_none hV
  obtain ⟨a0, len0, cap0, rfl⟩ := okWide_slice Try.underlying22 (hval 0 22 v0 rfl rfl)
  obtain ⟨a1, len1, cap1, rfl⟩ := okWide_slice Try.underlying23 (hval 1 23 v1 rfl rfl)
  obtain ⟨a2, len2, cap2, rfl⟩ := okWide_slice Try.underlying23 (hval 2 23 v2 rfl rfl)
  have k0 := h0
  have lt0 : ∀ x ∈ p0, x.block < W.heap.size := by obtain ⟨m, hm⟩ := k0; exact DataW.trod_lt m _ _ _ hm
  have k1 := h1
  have lt1 : ∀ x ∈ p1, x.block < W.heap.size := by obtain ⟨m, hm⟩ := k1; exact DataW.trod_lt m _ _ _ hm
  have k2 := h2
  have lt2 : ∀ x ∈ p2, x.block < W.heap.size := by obtain ⟨m, hm⟩ := k2; exact DataW.trod_lt m _ _ _ hm
  obtain ⟨ss, w0, hl0, hss⟩ : ∃ ss, ArgStrs W a0 len0 ss ∧ len0 ≤ maxLen ∧ ∀ (i : Nat) (h : i < ss.length), ss[i].size ≤ maxLen := by
    obtain ⟨fuel, hf⟩ := h0
    rcases open_strings Try.underlying22 Try.underlying9 (by kernel_rfl) hf with ⟨hcs, _⟩ | ⟨x, l, cp, ss, hcs, _, hl, hm, hz, _, hcell, hws⟩
    · simp [Value.cells] at hcs
      obtain ⟨rfl, rfl, rfl⟩ := hcs
      exact ⟨[], ⟨rfl, fun e => by omega⟩, Nat.zero_le _, fun i h => by simp at h⟩
    · simp [Value.cells] at hcs
      obtain ⟨rfl, rfl, rfl⟩ := hcs
      simp only [if_true] at hz
      exact ⟨ss.take len0, strs_of hl hz hcell, Nat.le_trans hl hm, fun i h => hws _ (List.mem_of_mem_take (List.getElem_mem h))⟩
  obtain ⟨xs1, w1, hl1⟩ : ∃ xs, ArgInts W a1 len1 xs ∧ len1 ≤ maxLen := by
    obtain ⟨fuel, hf⟩ := h1
    rcases open_ints Try.underlying23 Try.underlying3 (by kernel_rfl) hf with ⟨hcs, _⟩ | ⟨x, l, cp, ss, hcs, _, hl, hm, hz, _, hcell, hws⟩
    · simp [Value.cells] at hcs
      obtain ⟨rfl, rfl, rfl⟩ := hcs
      exact ⟨[], ⟨rfl, fun e => by omega⟩, Nat.zero_le _⟩
    · simp [Value.cells] at hcs
      obtain ⟨rfl, rfl, rfl⟩ := hcs
      simp only [if_true] at hz
      exact ⟨ss.take len1, ints_of hl hz hcell, Nat.le_trans hl hm⟩
  obtain ⟨xs2, w2, hl2⟩ : ∃ xs, ArgInts W a2 len2 xs ∧ len2 ≤ maxLen := by
    obtain ⟨fuel, hf⟩ := h2
    rcases open_ints Try.underlying23 Try.underlying3 (by kernel_rfl) hf with ⟨hcs, _⟩ | ⟨x, l, cp, ss, hcs, _, hl, hm, hz, _, hcell, hws⟩
    · simp [Value.cells] at hcs
      obtain ⟨rfl, rfl, rfl⟩ := hcs
      exact ⟨[], ⟨rfl, fun e => by omega⟩, Nat.zero_le _⟩
    · simp [Value.cells] at hcs
      obtain ⟨rfl, rfl, rfl⟩ := hcs
      simp only [if_true] at hz
      exact ⟨ss.take len2, ints_of hl hz hcell, Nat.le_trans hl hm⟩
  clear hA0 hval0
  refine (walk a0 len0 cap0 a1 len1 cap1 a2 len2 cap2 ss xs1 xs2 W hl0 hl1 hl2 hss w0 w1 w2).mono fun e W' ⟨he, bel⟩ => ?_
  subst he
  exact ⟨_, rfl, _, _, _, [], _, [], hW', trodAll_mk1 (shut_bool Try.underlying4 _), (trodAll_cons_mk (Below.trod laidOut (by kernel_rfl) (of_decide_eq_true (by kernel_rfl)) k0 bel lt0) (trodAll_cons_mk (Below.trod laidOut (by kernel_rfl) (of_decide_eq_true (by kernel_rfl)) k1 bel lt1) (trodAll_cons_mk (Below.trod laidOut (by kernel_rfl) (of_decide_eq_true (by kernel_rfl)) k2 bel lt2) trodAll_mk0))), rfl, bel.frame _, fun h => by cases h⟩

theorem jf0 : (Rows.fnCompactKeepsEveryHeldNodeByNameRow.wf (OpenSpec.ofChange Rows.fnCompactKeepsEveryHeldNodeByNameSpec)) = true := by kernel_rfl
theorem jf3 : (Try.f6.params.all (Try.prog.readableRec ·)) = true := by kernel_rfl
theorem jf4 : (namedTie Try.prog Rows.fnCompactKeepsEveryHeldNodeByNameRow.named Rows.fnCompactKeepsEveryHeldNodeByNameSpec.vars) = true := by kernel_rfl
theorem jf5 : ((Rows.fnCompactKeepsEveryHeldNodeByNameRow.stops == [])) = true := by kernel_rfl
theorem jf7 : ((Rows.fnCompactKeepsEveryHeldNodeByNameRow.knobs == [])) = true := by kernel_rfl
theorem jf9 : ((Rows.fnCompactKeepsEveryHeldNodeByNameRow.inPlace == Try.prog.inPlace 6)) = true := by kernel_rfl
theorem jf10 : ((Rows.fnCompactKeepsEveryHeldNodeByNameRow.unfollowed == Try.prog.unfollowed 6)) = true := by kernel_rfl
theorem jf11 : ((Rows.fnCompactKeepsEveryHeldNodeByNameRow.recurses == Try.prog.recurses 6)) = true := by kernel_rfl
theorem jf12 : ((Rows.fnCompactKeepsEveryHeldNodeByNameRow.named == Try.prog.varsNamed 6)) = true := by kernel_rfl
theorem jf13 : ((Rows.fnCompactKeepsEveryHeldNodeByNameRow.maps == (Try.f6.params.toList ++ Rows.fnCompactKeepsEveryHeldNodeByNameSpec.plain.varTypes Try.prog).any (Try.prog.mapsRec ·))) = true := by kernel_rfl
theorem jf14 : ((Rows.fnCompactKeepsEveryHeldNodeByNameRow.ifaces == (Try.f6.params.toList ++ Rows.fnCompactKeepsEveryHeldNodeByNameSpec.plain.varTypes Try.prog).any (Try.prog.ifacesRec ·))) = true := by kernel_rfl
theorem jf15 : ((Rows.fnCompactKeepsEveryHeldNodeByNameRow.mapsOut == Try.prog.mapsAmong Try.f6.resultTypes.toList)) = true := by kernel_rfl
theorem jf16 : ((Rows.fnCompactKeepsEveryHeldNodeByNameRow.loops == (Try.f6.params.toList ++ Rows.fnCompactKeepsEveryHeldNodeByNameSpec.plain.varTypes Try.prog).any (Try.prog.loopsFrom ·))) = true := by kernel_rfl
theorem jf17 : ((Rows.fnCompactKeepsEveryHeldNodeByNameRow.wideKeys == (Try.f6.params.toList ++ Rows.fnCompactKeepsEveryHeldNodeByNameSpec.plain.varTypes Try.prog ++ Try.f6.resultTypes.toList).any (Try.prog.wideKeysFrom ·))) = true := by kernel_rfl
theorem jf18 : (Rows.fnCompactKeepsEveryHeldNodeByNameSpec.vars.all (Try.prog.varReadable ·)) = true := by kernel_rfl
theorem jf19 : (Try.f6.resultTypes.all (fun t => Try.prog.readableRec t && decide (t < Try.prog.types.size))) = true := by kernel_rfl
theorem jf20 : ((Rows.fnCompactKeepsEveryHeldNodeByNameRow.ifacesOut == Try.f6.resultTypes.toList.any (Try.prog.ifacesRec ·))) = true := by kernel_rfl
theorem jf21 : ((Rows.fnCompactKeepsEveryHeldNodeByNameRow.loopsOut == Try.f6.resultTypes.toList.any (Try.prog.loopsFrom ·))) = true := by kernel_rfl
theorem jf23 : (Rows.fnCompactKeepsEveryHeldNodeByNameRow.shortTexts.isNone) = true := by kernel_rfl
theorem jf28 : ((Rows.fnCompactKeepsEveryHeldNodeByNameRow.kinds == (if Rows.fnCompactKeepsEveryHeldNodeByNameRow.domain.isEmpty then [] else Try.f6.params.toList.map fun t => match Try.prog.underlying t with | some (.int k) => some k | _ => none))) = true := by kernel_rfl
theorem jf29 : ((Rows.fnCompactKeepsEveryHeldNodeByNameRow.pinned == Rows.fnCompactKeepsEveryHeldNodeByNameRow.pinnedBy)) = true := by kernel_rfl
theorem jf30 : ((Rows.fnCompactKeepsEveryHeldNodeByNameRow.veiled == (Try.f6.params.toList ++ Rows.fnCompactKeepsEveryHeldNodeByNameSpec.plain.varTypes Try.prog ++ Try.f6.resultTypes.toList).any (Try.prog.veiledRec ·))) = true := by kernel_rfl
theorem jf31 : (Rows.fnCompactKeepsEveryHeldNodeByNameRow.veiledFits Try.prog Try.f6.params.toList (Try.f6.params.toList ++ Rows.fnCompactKeepsEveryHeldNodeByNameSpec.plain.varTypes Try.prog ++ Try.f6.resultTypes.toList)) = true := by kernel_rfl
set_option maxRecDepth 1000000 in
theorem closed : joinedFacts Try.prog 6 Try.f6 Rows.fnCompactKeepsEveryHeldNodeByNameSpec Rows.fnCompactKeepsEveryHeldNodeByNameRow = true := (and_t (and_t (and_t (and_t (and_t (and_t (and_t (and_t (and_t (and_t (and_t (and_t (and_t (and_t (and_t (and_t (and_t (and_t (and_t (and_t (and_t (and_t (and_t (and_t (and_t (and_t (and_t (and_t (and_t (and_t (and_t jf0 laidOut) pMaps) jf3) jf4) jf5) pStops) jf7) pKnobs) jf9) jf10) jf11) jf12) jf13) jf14) jf15) jf16) jf17) jf18) jf19) jf20) jf21) pPlain) jf23) pHeard) pEnter) pLifts) pMake) jf28) jf29) jf30) jf31)
theorem over : Rows.fnCompactKeepsEveryHeldNodeByNameRow.holds Try.pinned (OpenSpec.ofChange Rows.fnCompactKeepsEveryHeldNodeByNameSpec) :=
  OpenClaim.holds_of_wide 6 Try.f6 rfl rfl rfl rfl rfl rfl rfl ⟨rfl, rfl, rfl, rfl, rfl⟩ rfl rfl rfl rfl rfl (by kernel_rfl) Try.func6 closed
    (of_decide_eq_true (by kernel_rfl)) (by unfold Func.isWrapper; first | (rw [if_pos (by decide +kernel)]; kernel_rfl) | (rw [if_neg (by decide +kernel)]; exact ⟨rfl, rfl⟩))
    (fun os started H enc _ => lifted os started H enc)

/-- THE STATEMENT -/
theorem proved : Rows.FnCompactKeepsEveryHeldNodeByNameSaid :=
  over

end Go.Proofs.Qxb6600010a.fnCompactKeepsEveryHeldNodeByName
