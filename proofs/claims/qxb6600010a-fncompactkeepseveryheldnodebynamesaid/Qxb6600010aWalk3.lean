/-
  THE LOOP OF walk OVER THE CHANGES.
-/
import Derived.Test.Qxb6600010aWalk1
import Derived.Test.Qxb6600010aChg
import Derived.Deep.RegionHeld3
import Derived.Deep.QuietTactic
import Derived.BigQuiet
import Derived.BigRegion
namespace Go.Proofs.Qxb6600010a
open Go.RowKit
set_option linter.unusedVariables false
set_option linter.unusedSimpArgs false
attribute [local go_sem ↓] Go.wp_at_zero Go.wp_at_succ

set_option maxHeartbeats 20000000 in
set_option maxRecDepth 1000000 in
theorem walk_loop3 {c1 c2 c4 c5 c6 c7 c8 c9 c12 c13 c14 c15 c16 c17 c18 c19 c20 c21 c22 c23 c24 c25 c26 c27 c28 c29 c30 c31 c32 c33 c34 c35 c36 c37 c38 c39 c40 c41 c42 c43 c44 c45 c46 c47 c48 c49 c50 c51 c52 c53 c54 c55 c56 c57 c58 c59 c60 c61 c62 c63 c64 c65 c66 c67 c68 c69 c70 c71 c72 c73 c74 c75 c76 c77 c78 c79 c80 c81 c82 c83 c84 c85 c86 c87 c88 c89 c90 c91 c92 c93 c94 c95 c96 c97 c98 c99 c100 c101 c102 c103 c104 c105 c106 c107 c108 c109 c110 c111 c112 c113 c114 c115 c116 c117 c118 c119 c120 c121 c122 c123 c124 c125 c126 c127 c128 c129 c130 c131 c132 c133 c134 c135 c136 c137 c138 c139 c140 c141 c142 c143 c144 c145 c146 c147 c148 c149 c150 c151 c152 c153 c154 c155 c156 c157 c158 c159 : Value} {K : Act → World → Prop} {R : Ending → World → Prop} (w3 : World) (p n B B3 gc : Nat) (d : PD) (b : PB) (P' : Nat → PT) (cp : List Value) (hn0 : 0 < n) (hn : n ≤ 65536) (hg1 : n ≤ gc) (hg2 : gc ≤ maxLen)
    (HB : Hid (w3.heap.size = B3)) (HP : Hid (PsAt w3 p n d b)) (hcp : Row w3 B 70 cp) (hPA : PAt cp n P') (HV : Hid (∀ k, k < n → ((d.P k).hops = 0 ∨ ((d.P k).via < n ∧ (d.P k).prev < n)) ∧ (d.P k).hops ≤ 1000000)) (HV' : Hid (∀ k, k < n → ((P' k).via < n ∧ (P' k).prev < n) ∧ (P' k).hops ≤ 1000000 ∧ (d.P k).via ≤ 1000000 ∧ (d.P k).prev ≤ 1000000))
    (HX : Hid (∀ (u10 u11 u12 u13 u14 u15 u16 u17 u18 u19 u20 u21 u22 u23 u24 u25 u26 u27 u28 u29 u30 u31 u32 u33 u34 u35 u36 u37 u38 u39 u40 u41 u42 u43 u44 u45 u46 u47 u48 u49 u50 u51 u52 u53 u54 u55 u56 u57 u58 u59 u60 u61 u62 u63 u64 u65 u66 u67 u68 u69 u70 u71 u72 u73 u74 u75 u76 u77 u78 u79 u80 u81 u82 u83 u84 u85 u86 u87 u88 u89 u90 u91 u92 u93 u94 u95 u96 u97 u98 u99 u100 u101 u102 u103 u104 u105 u106 u107 u108 u109 u110 u111 u112 u113 u114 u115 u116 u117 u118 u119 u120 u121 u122 u123 u124 u125 u126 u127 u128 u129 u130 u131 u132 u133 u134 u135 u136 u137 u138 u139 u140 u141 u142 u143 u144 u145 u146 u147 u148 u149 u150 u151 u152 u153 u154 u155 u156 u157 u158 u159 : Value) (w' : World), w'.ownsRow B3 48 7 u10 (difs d.P P' n).length (chs ((difs d.P P' n).map (chOf d.nm d.P P'))) → Kp B3 [] w3 w' → K ⟨List.toArray ((Value.pointer (some ⟨p, 0, none⟩)) :: c1 :: c2 :: (Value.slice (some ⟨B, 0, none⟩) n gc) :: c4 :: c5 :: c6 :: c7 :: c8 :: c9 :: u10 :: u11 :: u12 :: u13 :: u14 :: u15 :: u16 :: u17 :: u18 :: u19 :: u20 :: u21 :: u22 :: u23 :: u24 :: u25 :: u26 :: u27 :: u28 :: u29 :: u30 :: u31 :: u32 :: u33 :: u34 :: u35 :: u36 :: u37 :: u38 :: u39 :: u40 :: u41 :: u42 :: u43 :: u44 :: u45 :: u46 :: u47 :: u48 :: u49 :: u50 :: u51 :: u52 :: u53 :: u54 :: u55 :: u56 :: u57 :: u58 :: u59 :: u60 :: u61 :: u62 :: u63 :: u64 :: u65 :: u66 :: u67 :: u68 :: u69 :: u70 :: u71 :: u72 :: u73 :: u74 :: u75 :: u76 :: u77 :: u78 :: u79 :: u80 :: u81 :: u82 :: u83 :: u84 :: u85 :: u86 :: u87 :: u88 :: u89 :: u90 :: u91 :: u92 :: u93 :: u94 :: u95 :: u96 :: u97 :: u98 :: u99 :: u100 :: u101 :: u102 :: u103 :: u104 :: u105 :: u106 :: u107 :: u108 :: u109 :: u110 :: u111 :: u112 :: u113 :: u114 :: u115 :: u116 :: u117 :: u118 :: u119 :: u120 :: u121 :: u122 :: u123 :: u124 :: u125 :: u126 :: u127 :: u128 :: u129 :: u130 :: u131 :: u132 :: u133 :: u134 :: u135 :: u136 :: u137 :: u138 :: u139 :: u140 :: u141 :: u142 :: u143 :: u144 :: u145 :: u146 :: u147 :: u148 :: u149 :: u150 :: u151 :: u152 :: u153 :: u154 :: u155 :: u156 :: u157 :: u158 :: u159 :: []), []⟩ w')) :
    Code.wp Try.prog (Code.loop (loopNo 2 Try.f45)) (Exit.inBlock 4 (Exit.then K (bodyPost Try.prog Try.f45 R))) ⟨List.toArray ((Value.pointer (some ⟨p, 0, none⟩)) :: c1 :: c2 :: (Value.slice (some ⟨B, 0, none⟩) n gc) :: c4 :: c5 :: c6 :: c7 :: c8 :: c9 :: (Value.slice none 0 0) :: (Value.int IntKind.i64 1) :: c12 :: c13 :: c14 :: c15 :: c16 :: c17 :: c18 :: c19 :: c20 :: c21 :: c22 :: c23 :: c24 :: c25 :: c26 :: c27 :: c28 :: c29 :: c30 :: c31 :: c32 :: c33 :: c34 :: c35 :: c36 :: c37 :: c38 :: c39 :: c40 :: c41 :: c42 :: c43 :: c44 :: c45 :: c46 :: c47 :: c48 :: c49 :: c50 :: c51 :: c52 :: c53 :: c54 :: c55 :: c56 :: c57 :: c58 :: c59 :: c60 :: c61 :: c62 :: c63 :: c64 :: c65 :: c66 :: c67 :: c68 :: c69 :: c70 :: c71 :: c72 :: c73 :: c74 :: c75 :: c76 :: c77 :: c78 :: c79 :: c80 :: c81 :: c82 :: c83 :: c84 :: c85 :: c86 :: c87 :: c88 :: c89 :: c90 :: c91 :: c92 :: c93 :: c94 :: c95 :: c96 :: c97 :: c98 :: c99 :: c100 :: c101 :: c102 :: c103 :: c104 :: c105 :: c106 :: c107 :: c108 :: c109 :: c110 :: c111 :: c112 :: c113 :: c114 :: c115 :: c116 :: c117 :: c118 :: c119 :: c120 :: c121 :: c122 :: c123 :: c124 :: c125 :: c126 :: c127 :: c128 :: c129 :: c130 :: c131 :: c132 :: c133 :: c134 :: c135 :: c136 :: c137 :: c138 :: c139 :: c140 :: c141 :: c142 :: c143 :: c144 :: c145 :: c146 :: c147 :: c148 :: c149 :: c150 :: c151 :: c152 :: c153 :: c154 :: c155 :: c156 :: c157 :: c158 :: c159 :: []), []⟩ w3 := by
  conv => arg 2; arg 1; whnf
  have hB33 : B3 ≤ w3.heap.size := by rw [HB.out]; exact Nat.le_refl _
  have hBl : B < B3 := by rw [← HB.out]; exact hcp.lt
  go_loopg [10, 11] (n - 1) (fun g v s wr => ∃ (k : Nat), g = n - k ∧ 1 ≤ k ∧ k ≤ n ∧ s = .int .i64 k ∧ wr.ownsRow B3 48 7 v (difs d.P P' k).length (chs ((difs d.P P' k).map (chOf d.nm d.P P'))) ∧ Kp B3 [] w3 wr)
  case atStart => exact ⟨1, rfl, by omega, by omega, rfl, by rw [difs_one]; exact World.ownsRow_nil _ _ _ _, Kp.refl _ _ _⟩
  case round =>
    rename World => wa
    obtain ⟨k, rfl, hk1, hk, rfl, hown, hK⟩ := hrel
    have HCP : Hid (Row w3 B 70 cp) := hcp
    have HPA : Hid (PAt cp n P') := hPA
    by_cases hkn : k < n
    · have hPa := HP.out.kp (by rw [HB.out]; exact hK)
      have hst := hPa.st
      unfold slc at hst
      have s0 := hst.cell (i := 0) rfl
      have s3 := hst.cell (i := 3) rfl
      obtain ⟨cq, hcq, hPQ, hql, hq1, hq2⟩ := hPa.paths
      have a0 := hcq.cell (hPQ.via k hkn)
      have a1 := hcq.cell (hPQ.prev k hkn)
      have a2 := hcq.cell (hPQ.hops k hkn)
      have hcr := hcp.kp hK hBl (by simp)
      have b0 := hcr.cell (hPA.via k hkn)
      have b1 := hcr.cell (hPA.prev k hkn)
      have b2 := hcr.cell (hPA.hops k hkn)
      obtain ⟨csn, hcsn, hN⟩ := hPa.nodes
      have nmc := hcsn.cell (hN.nm k hkn)
      clear hPa hst hcq hPQ hql hcr hcsn hN hcp hPA
      obtain ⟨q1, hq1e⟩ : ∃ q, d.P k = q := ⟨_, rfl⟩
      obtain ⟨q2, hq2e⟩ : ∃ q, P' k = q := ⟨_, rfl⟩
      rw [hq1e] at a0 a1 a2
      rw [hq2e] at b0 b1 b2
      have HQ1 : Hid (d.P k = q1) := hq1e
      have HQ2 : Hid (P' k = q2) := hq2e
      clear hq1e hq2e
      obtain ⟨v1, p1, h1⟩ := q1
      obtain ⟨v2, p2, h2⟩ := q2
      have heq := equal70 v2 p2 h2 v1 p1 h1
      have HOWN : Hid (wa.ownsRow B3 48 7 u10 (difs d.P P' k).length (chs ((difs d.P P' k).map (chOf d.nm d.P P')))) := hown
      have hvv := HV.out k hkn
      have hvv' := HV'.out k hkn
      rw [HQ1.out] at hvv hvv'
      rw [HQ2.out] at hvv'
      simp only [] at hvv hvv' a0 a1 a2 b0 b1 b2
      obtain ⟨bb, hbb⟩ : ∃ bb, ptNe ⟨v2, p2, h2⟩ ⟨v1, p1, h1⟩ = bb := ⟨_, rfl⟩
      rw [hbb] at heq
      have HBB : Hid (ptNe ⟨v2, p2, h2⟩ ⟨v1, p1, h1⟩ = bb) := hbb
      clear hown hbb
      go_upto_region 22 with fail
      go_quiet (fail)
      cases bb with
      | false =>
        have HE : Hid (difs d.P P' (k + 1) = difs d.P P' k) := by
          show difs d.P P' (k + 1) = difs d.P P' k
          rw [difs_succ _ _ _ hk1, HQ1.out, HQ2.out, HBB.out]; simp
        go_wp2
        go_roundg (n - (k + 1))
        case measure => omega
        case rel => exact ⟨k + 1, rfl, by omega, by omega, by go_num, by rw [HE.out]; exact HOWN.out, hK.drewN _⟩
      | true =>
        have HE : Hid (difs d.P P' (k + 1) = difs d.P P' k ++ [k]) := by
          show difs d.P P' (k + 1) = difs d.P P' k ++ [k]
          rw [difs_succ _ _ _ hk1, HQ1.out, HQ2.out, HBB.out]; simp
        have hdl := difs_len d.P P' k
        obtain ⟨⟨xv1, xh1, xp1⟩, hN1⟩ : ∃ N, nmd d.nm ⟨v1, p1, h1⟩ = N := ⟨_, rfl⟩
        obtain ⟨⟨xv2, xh2, xp2⟩, hN2⟩ : ∃ N, nmd d.nm ⟨v2, p2, h2⟩ = N := ⟨_, rfl⟩
        obtain ⟨nmk, hnmk⟩ : ∃ x, d.nm k = x := ⟨_, rfl⟩
        have HN1 : Hid (∀ W, Kp B3 [] w3 W → Calls Try.prog 46 #[.pointer (some ⟨p, 0, none⟩), .agg #[.int .i64 (v1 : Int), .int .i64 (p1 : Int), .int .i64 (h1 : Int)]] W fun e w' => e = .returned (.agg #[.string xv1, .int .i64 (xh1 : Int), .string xp1]) ∧ Kp W.heap.size [] W w') := by
          intro W hW
          have h := named_any W p n d b (HP.out.kp (by rw [HB.out]; exact hW)) ⟨v1, p1, h1⟩ hvv.1 hn hvv.2
          rw [hN1] at h; exact h
        have HN2 : Hid (∀ W, Kp B3 [] w3 W → Calls Try.prog 46 #[.pointer (some ⟨p, 0, none⟩), .agg #[.int .i64 (v2 : Int), .int .i64 (p2 : Int), .int .i64 (h2 : Int)]] W fun e w' => e = .returned (.agg #[.string xv2, .int .i64 (xh2 : Int), .string xp2]) ∧ Kp W.heap.size [] W w') := by
          intro W hW
          have h := named_any W p n d b (HP.out.kp (by rw [HB.out]; exact hW)) ⟨v2, p2, h2⟩ (.inr hvv'.1) hn hvv'.2.1
          rw [hN2] at h; exact h
        have HCH : Hid (chs ((difs d.P P' (k + 1)).map (chOf d.nm d.P P')) = chs ((difs d.P P' k).map (chOf d.nm d.P P')) ++ [.string nmk, .string xv1, .int .i64 (xh1 : Int), .string xp1, .string xv2, .int .i64 (xh2 : Int), .string xp2] ∧ (difs d.P P' (k + 1)).length = (difs d.P P' k).length + 1) := by
          refine ⟨?_, by rw [HE.out]; simp⟩
          rw [HE.out, List.map_append, List.map_cons, List.map_nil, chs_snoc]
          unfold chOf
          rw [HQ1.out, HQ2.out, hN1, hN2, hnmk]; rfl
        have hKb : Kp B3 [] w3 (wa.drewN nq) := hK.drewN nq
        have HOB : Hid (World.ownsRow (wa.drewN nq) B3 48 7 u10 (difs d.P P' k).length (chs ((difs d.P P' k).map (chOf d.nm d.P P')))) := HOWN.out
        have hszb : B3 ≤ (wa.drewN nq).heap.size := by rw [← HB.out]; exact hKb.size
        rw [hnmk] at nmc
        have HMK : Hid (∀ W, Kp B3 [] w3 W → W.cell? ⟨p, 0, none⟩ = some (.slice (some ⟨b.nb, 0, none⟩) n n) ∧ W.cell? ⟨p, 3, none⟩ = some (.slice (some ⟨b.pb, 0, none⟩) n b.pc) ∧ W.cell? ⟨b.nb, k * 4, none⟩ = some (.string nmk) ∧ W.cell? ⟨b.pb, k * 3, none⟩ = some (.int .i64 (v1 : Int)) ∧ W.cell? ⟨b.pb, k * 3 + 1, none⟩ = some (.int .i64 (p1 : Int)) ∧ W.cell? ⟨b.pb, k * 3 + 2, none⟩ = some (.int .i64 (h1 : Int)) ∧ W.cell? ⟨B, k * 3, none⟩ = some (.int .i64 (v2 : Int)) ∧ W.cell? ⟨B, k * 3 + 1, none⟩ = some (.int .i64 (p2 : Int)) ∧ W.cell? ⟨B, k * 3 + 2, none⟩ = some (.int .i64 (h2 : Int)) ∧ Kp B3 [] w3 W) := by
          intro W hW
          have hPW := HP.out.kp (by rw [HB.out]; exact hW)
          have hst := hPW.st
          unfold slc at hst
          obtain ⟨cq, hcq, hPQ, _⟩ := hPW.paths
          obtain ⟨csn, hcsn, hN⟩ := hPW.nodes
          have hcr := HCP.out.kp hW hBl (by simp)
          have x0 := hcq.cell (hPQ.via k hkn)
          have x1 := hcq.cell (hPQ.prev k hkn)
          have x2 := hcq.cell (hPQ.hops k hkn)
          have y0 := hcr.cell (HPA.out.via k hkn)
          have y1 := hcr.cell (HPA.out.prev k hkn)
          have y2 := hcr.cell (HPA.out.hops k hkn)
          have nn := hcsn.cell (hN.nm k hkn)
          rw [HQ1.out] at x0 x1 x2
          rw [HQ2.out] at y0 y1 y2
          rw [hnmk] at nn
          exact ⟨hst.cell (i := 0) rfl, hst.cell (i := 3) rfl, nn, x0, x1, x2, y0, y1, y2, hW⟩
        clear s0 s3 a0 a1 a2 b0 b1 b2 nmc hK HOWN heq HE hvv hvv' hnmk hN1 hN2 HQ1 HQ2
        generalize wa.drewN nq = wb at *
        obtain ⟨s0, s3, nmc, a0, a1, a2, b0, b1, b2, _⟩ := HMK.out wb hKb
        generalize hL : (difs d.P P' k).length = L at *
        generalize hX : chs ((difs d.P P' k).map (chOf d.nm d.P P')) = X at *
        clear hL hX
        obtain ⟨i48, hi48, hzz⟩ := Option.map_eq_some_iff.1 info48
        simp only [Prod.mk.injEq] at hzz
        obtain ⟨hz48, hs48, hb48⟩ := hzz
        go_wp2_with fail
        go_region_held3 (fun w' => w'.cell? ⟨p, 0, none⟩ = some (.slice (some ⟨b.nb, 0, none⟩) n n) ∧ w'.cell? ⟨p, 3, none⟩ = some (.slice (some ⟨b.pb, 0, none⟩) n b.pc) ∧ w'.cell? ⟨b.nb, k * 4, none⟩ = some (.string nmk) ∧ w'.cell? ⟨b.pb, k * 3, none⟩ = some (.int .i64 (v1 : Int)) ∧ w'.cell? ⟨b.pb, k * 3 + 1, none⟩ = some (.int .i64 (p1 : Int)) ∧ w'.cell? ⟨b.pb, k * 3 + 2, none⟩ = some (.int .i64 (h1 : Int)) ∧ w'.cell? ⟨B, k * 3, none⟩ = some (.int .i64 (v2 : Int)) ∧ w'.cell? ⟨B, k * 3 + 1, none⟩ = some (.int .i64 (p2 : Int)) ∧ w'.cell? ⟨B, k * 3 + 2, none⟩ = some (.int .i64 (h2 : Int)) ∧ Kp B3 [] w3 w') (first | exact HMK.out _ hKb.drew | (go_split_ands; refine HMK.out _ ?_; assumption) | (go_split_ands; exact HMK.out _ (Kp.step hB33 (by assumption) ((Kp.refl _ _ _).alloc (Nat.le_refl _) _))) | (go_split_ands; exact HMK.out _ (Kp.step hB33 (by assumption) (by assumption)))) (first | (go_at_call_of 46 (Value.agg #[.int .i64 (v1 : Int), .int .i64 (p1 : Int), .int .i64 (h1 : Int)]); refine (HN1.out _ (by go_split_ands; assumption)).mono ?_; rintro e wc1 ⟨rfl, hkA⟩) | (go_at_call_of 46 (Value.agg #[.int .i64 (v2 : Int), .int .i64 (p2 : Int), .int .i64 (h2 : Int)]); refine (HN2.out _ (by go_split_ands; assumption)).mono ?_; rintro e wc2 ⟨rfl, hkB⟩) | (refine step_append_lies _ (by rfl) _ _ _ (by rfl) B3 48 i48 _ 7 96 Try.underlying37 hi48 hz48 hs48 hb48 rfl (by decide) u10 L X (by simp [Act.eval, Act.put]) ((owns_keep (owns_keep (w := wb.drew) HOB.out hkA) hkB).alloc _) ⟨wc2.heap.size, 0, none⟩ 1 1 [.string nmk, .string xv1, .int .i64 (xh1 : Int), .string xp1, .string xv2, .int .i64 (xh2 : Int), .string xp2] (by simp [Act.eval, Act.put]) rfl (World.news_of_block (row_new wc2 _ 48)) (by simp [Value.oneCell']) (by omega) (by unfold maxLen; omega) (by omega) (append_le (by exact hszb) hkA hkB) (wc2.heap.size + 1) (by simp) ?_; intro g cap w1 hown1 hgrow1 hat1 hlt1; have hkC := append_kp hKb (by exact hszb) HOB.out hkA hkB hgrow1; clear hat1 hlt1))
        all_goals
          have HO1 : Hid (World.ownsRow w1 B3 48 7 (.slice (some ⟨g, 0, none⟩) (L + 1) cap) (L + 1) (X ++ [.string nmk, .string xv1, .int .i64 (xh1 : Int), .string xp1, .string xv2, .int .i64 (xh2 : Int), .string xp2])) := hown1
          clear hown1 hgrow1 hkA hkB
          go_wp2
          go_roundg (n - (k + 1))
          case measure => omega
          case rel => exact ⟨k + 1, rfl, by omega, by omega, by go_num, by rw [HCH.out.1, HCH.out.2]; exact HO1.out, hkC⟩
    · have e : n = k := by omega
      subst e
      have HOWN : Hid (wa.ownsRow B3 48 7 u10 (difs d.P P' n).length (chs ((difs d.P P' n).map (chOf d.nm d.P P')))) := hown
      clear hown
      go_wp2
      apply HX.out
      · exact HOWN.out
      · exact hK
end Go.Proofs.Qxb6600010a
