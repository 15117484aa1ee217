/-
  THE WALK of zzSortByRank.
-/
import Derived.Test.Qxb6600010aBase
import Derived.Test.Qxb6600010aSortPlain
import Derived.Test.Qxb6600010aOrder
import Derived.WalkSpells
import Derived.WalkLawsBesides
import Derived.Deep.LoopGhost
import Derived.Deep.DeepCutAuto
import Derived.Deep.QuietTactic
import Derived.BigQuiet
import Derived.Laws.CopyOwn
namespace Go.Proofs.Qxb6600010a
open Go.RowKit
set_option linter.unusedVariables false
set_option linter.unusedSimpArgs false

set_option maxHeartbeats 2000000 in
set_option maxRecDepth 100000 in
theorem sortRank_any (w : World) (g cap nb : Nat) (ids : List Nat) (rest : List Value) (rank : List Nat) (hn : ids.length ≤ 65536) (hnn : rank.length ≤ 65536) (hgn : g ≠ nb) (hltk : ∀ x ∈ ids, x < rank.length)
    (hi : Row w g 3 (nats ids ++ rest)) (hnm : Row w nb 3 (nats rank)) :
    Calls Try.prog 43 #[.slice (some ⟨g, 0, none⟩) ids.length cap, .slice (some ⟨nb, 0, none⟩) rank.length rank.length] w fun e w' => e = .returned (.tuple #[]) ∧
      ∃ L : List Nat, L.Perm ids ∧ L.Pairwise (fun a b => PL.rankLe rank a b = true) ∧ Row w' g 3 (nats L ++ rest) ∧ w.grownBy w' (some g) := by
  have hmk := run_make_row' (P := Try.prog) 23 3 (.int .i64 0) 8 Try.underlying23 info3 rfl .i64 .i64 ids.length (by omega) (by omega)
  have hinfo : (Try.prog.info? 3).map (·.size) = some 1 := by
    obtain ⟨i3, h3, _, h31, _⟩ := info_parts info3
    rw [h3]; simp [h31]
  obtain ⟨n, hnl⟩ : ∃ n, ids.length = n := ⟨_, rfl⟩
  rw [hnl] at hn hmk ⊢
  have HNL : Hid (ids.length = n) := hnl
  have HLT : Hid (∀ x ∈ ids, x < rank.length) := hltk
  clear hnl hltk
  obtain ⟨kn, hkn⟩ : ∃ kn, rank.length = kn := ⟨_, rfl⟩
  rw [hkn] at hnn HLT ⊢
  have HKN : Hid (rank.length = kn) := hkn
  clear hkn
  go_enter Try.func43, Try.ntmps43
  go_wp2
  have hb0 : Row (w.alloc (.cells (madeCells #[.int .i64 0] n) 3)) w.heap.size 3 (nats (List.replicate n 0)) := by
    rw [← nats_replicate]; exact row_made w _ n 3
  have hi0 := hi.alloc (.cells (madeCells #[.int .i64 0] n) 3)
  have hg0 : w.grownBy (w.alloc (.cells (madeCells #[.int .i64 0] n) 3)) (some g) := World.grownBy_alloc w _ _
  have hglt := hi.lt
  have hnblt := hnm.lt
  generalize w.alloc (.cells (madeCells #[.int .i64 0] n) 3) = w1 at *
  have HNM : Hid (Row w nb 3 (nats rank)) := hnm
  clear hmk hi hnm
  obtain ⟨bb, hbb⟩ : ∃ bb, w.heap.size = bb := ⟨_, rfl⟩
  have HBB : Hid (w.heap.size = bb) := hbb
  rw [hbb] at hglt hnblt hb0 ⊢
  clear hbb
  go_loopg [6] (n - 1) (fun gh s6 wr => ∃ (wd : Nat) (L bf : List Nat), gh = n - wd ∧ 1 ≤ wd ∧ wd ≤ 131072 ∧ s6 = .int .i64 wd ∧ L.Perm ids ∧ PL.Chunk (PL.rankLe rank) wd L ∧ bf.length = n ∧ Row wr g 3 (nats L ++ rest) ∧ Row wr bb 3 (nats bf) ∧ w.grownBy wr (some g))
  case atStart => exact ⟨1, ids, List.replicate n 0, rfl, by omega, by omega, rfl, List.Perm.refl _, PL.chunk_one _ _, by simp, hi0, hb0, hg0⟩
  case round =>
    clear hi0 hb0 hg0
    obtain ⟨wd, L, bf, rfl, hw1, hw2, rfl, hperm, hchunk, hbl, hRi, hRb, hgr⟩ := hrel
    have hLl : L.length = n := by rw [hperm.length_eq, HNL.out]
    have HLL : Hid (L.length = n) := hLl
    have HCH : Hid (PL.Chunk (PL.rankLe rank) wd L) := hchunk
    have HPM : Hid (L.Perm ids) := hperm
    have HLK : Hid (∀ (i : Nat) (h : i < L.length), L[i] < kn) := fun i h => HLT.out _ (hperm.mem_iff.1 (List.getElem_mem h))
    clear hLl hchunk hperm
    by_cases hwn : wd < n
    · obtain ⟨wo, hwo⟩ : ∃ wo : World, wo = wr := ⟨_, rfl⟩
      subst hwo
      go_wp2
      go_loopg [7] n (fun gh s7 wr => ∃ (lo : Nat) (bf : List Nat), gh = n - lo ∧ s7 = .int .i64 lo ∧ lo ≤ 1000000 ∧ bf.length = n ∧ (bf.take lo = (PL.pass (PL.rankLe rank) wd L).take lo ∧ (PL.pass (PL.rankLe rank) wd L).take lo ++ PL.pass (PL.rankLe rank) wd (L.drop lo) = PL.pass (PL.rankLe rank) wd L) ∧ Row wr g 3 (nats L ++ rest) ∧ Row wr bb 3 (nats bf) ∧ w.grownBy wr (some g))
      case atStart => exact ⟨0, bf, rfl, rfl, by omega, hbl, ⟨by simp, by simp⟩, hRi, hRb, hgr⟩
      case round =>
        clear hRi hRb hgr hbl
        obtain ⟨lo, bf, rfl, rfl, hlo, hbl, hpass, hRi, hRb, hgr⟩ := hrel
        have HPS : Hid (bf.take lo = (PL.pass (PL.rankLe rank) wd L).take lo ∧ (PL.pass (PL.rankLe rank) wd L).take lo ++ PL.pass (PL.rankLe rank) wd (L.drop lo) = PL.pass (PL.rankLe rank) wd L) := hpass
        clear hpass
        by_cases hln : lo < n
        · obtain ⟨mid, hmid⟩ : ∃ mid, mid = min (lo + wd) n := ⟨_, rfl⟩
          obtain ⟨hiN, hhi⟩ : ∃ hiN, hiN = min (lo + 2 * wd) n := ⟨_, rfl⟩
          have hm1 : mid ≤ n := by omega
          have hm2 : lo ≤ mid := by omega
          have hh1 : hiN ≤ n := by omega
          have hh2 : mid ≤ hiN := by omega
          have HMID : Hid (mid = min (lo + wd) n) := hmid
          have HHI : Hid (hiN = min (lo + 2 * wd) n) := hhi
          clear hmid hhi
          go_upto_if 34 with fail
          go_cut [8] (fun m wx => m = .int .i64 mid ∧ wr = wx)
          case first =>
            by_cases hc : lo + wd ≤ n
            · have e : mid = lo + wd := by have := HMID.out; omega
              subst e
              go_wp2
              go_meet
              case rel => exact ⟨by go_num, rfl⟩
            · have e : mid = n := by have := HMID.out; omega
              subst e
              go_wp2
              go_meet
              case rel => exact ⟨rfl, rfl⟩
          case rest =>
            obtain ⟨rfl, rfl⟩ := hcut
            go_upto_if 41 with fail
            go_cut [9] (fun m wx => m = .int .i64 hiN ∧ wr = wx)
            case first =>
              by_cases hc : mid + wd ≤ n
              · have e : hiN = mid + wd := by have := HMID.out; have := HHI.out; omega
                subst e
                go_wp2
                go_meet
                case rel => exact ⟨by go_num, rfl⟩
              · have e : hiN = n := by have := HMID.out; have := HHI.out; omega
                subst e
                go_wp2
                go_meet
                case rel => exact ⟨rfl, rfl⟩
            case rest =>
              obtain ⟨rfl, rfl⟩ := hcut
              obtain ⟨P0, hP0⟩ : ∃ P0, P0 = (PL.pass (PL.rankLe rank) wd L).take lo ++ (PL.seg L lo mid).merge (PL.seg L mid hiN) (PL.rankLe rank) := ⟨_, rfl⟩
              have HP0 : Hid (P0 = (PL.pass (PL.rankLe rank) wd L).take lo ++ (PL.seg L lo mid).merge (PL.seg L mid hiN) (PL.rankLe rank)) := hP0
              clear hP0
              obtain ⟨wm, hwm⟩ : ∃ wm : World, wm = wr := ⟨_, rfl⟩
              subst hwm
              go_wp2
              go_loopg [10, 11, 12] (hiN - lo) (fun gh s10 s11 s12 wr => ∃ (i j o : Nat) (bf : List Nat), gh = hiN - o ∧ s10 = .int .i64 i ∧ s11 = .int .i64 j ∧ s12 = .int .i64 o ∧ lo ≤ i ∧ i ≤ mid ∧ mid ≤ j ∧ j ≤ hiN ∧ o + mid = i + j ∧ o ≤ hiN ∧ bf.length = n ∧ bf.take o ++ (PL.seg L i mid).merge (PL.seg L j hiN) (PL.rankLe rank) = P0 ∧ Row wr g 3 (nats L ++ rest) ∧ Row wr bb 3 (nats bf) ∧ w.grownBy wr (some g))
              case atStart => exact ⟨lo, mid, lo, bf, rfl, rfl, rfl, rfl, by omega, by omega, by omega, by omega, by omega, by omega, hbl, by rw [HPS.out.1, HP0.out], hRi, hRb, hgr⟩
              case round =>
                clear hRi hRb hgr hbl
                obtain ⟨i, j, o, bf, rfl, rfl, rfl, rfl, hi1, hi2, hj1, hj2, hoij, hoh, hbl, hmg, hRi, hRb, hgr⟩ := hrel
                have HMG : Hid (bf.take o ++ (PL.seg L i mid).merge (PL.seg L j hiN) (PL.rankLe rank) = P0) := hmg
                have HBL : Hid (bf.length = n) := hbl
                have HO : Hid (o + mid = i + j) := hoij
                clear hmg hbl hoij
                by_cases hoH : o < hiN
                · obtain ⟨tk, htk⟩ : ∃ tk : Bool, tk = (decide (hiN ≤ j) || (decide (i < mid) && PL.rankLe rank (L[i]?.getD 0) (L[j]?.getD 0))) := ⟨_, rfl⟩
                  have HTK : Hid (tk = (decide (hiN ≤ j) || (decide (i < mid) && PL.rankLe rank (L[i]?.getD 0) (L[j]?.getD 0)))) := htk
                  clear htk
                  go_upto_region 18 with fail
                  go_cut [74] (fun b wx => b = .bool tk ∧ ∃ nq, wx = wr.drewN nq)
                  case first =>
                    by_cases hc1 : hiN ≤ j
                    · have e : tk = true := by rw [HTK.out]; simp [hc1]
                      subst e
                      clear HTK
                      go_quiet (fail)
                      go_wp2
                      go_meet
                      case rel => exact ⟨by simp <;> omega, _, rfl⟩
                    · have hd1 : decide (hiN ≤ j) = false := by simp; omega
                      have hd1' : decide ((hiN : Int) ≤ (j : Int)) = false := by simp; omega
                      by_cases hc2 : i < mid
                      · have hjL : j < L.length := by rw [HLL.out]; omega
                        have hiL : i < L.length := by rw [HLL.out]; omega
                        have hcj := hRi.cell (at_left (ys := rest) (nats_at (List.getElem?_eq_getElem hjL)))
                        have hci := hRi.cell (at_left (ys := rest) (nats_at (List.getElem?_eq_getElem hiL)))
                        have hxj := HLK.out j hjL
                        have hxi := HLK.out i hiL
                        have hkj := (HNM.out.kept hgr (by simp; omega)).cell (nats_at (List.getElem?_eq_getElem (show L[j] < rank.length by rw [HKN.out]; exact hxj)))
                        have hki := (HNM.out.kept hgr (by simp; omega)).cell (nats_at (List.getElem?_eq_getElem (show L[i] < rank.length by rw [HKN.out]; exact hxi)))
                        have hle := PL.rankLe_at (List.getElem?_eq_getElem (show L[i] < rank.length by rw [HKN.out]; exact hxi)) (List.getElem?_eq_getElem (show L[j] < rank.length by rw [HKN.out]; exact hxj))
                        have e : tk = PL.rankLe rank L[i] L[j] := by rw [HTK.out, hd1]; simp [hc2, hiL, hjL]
                        rw [hle] at e
                        clear hle hd1
                        generalize L[i] = xi at *
                        generalize L[j] = xj at *
                        generalize rank[xi]'(by rw [HKN.out]; exact hxi) = ki at *
                        generalize rank[xj]'(by rw [HKN.out]; exact hxj) = kj at *
                        have HE : Hid (tk = !decide (kj < ki)) := e
                        clear e HTK hiL hjL
                        go_quiet (fail)
                        go_wp2
                        go_meet
                        case rel => exact ⟨by rw [HE.out] <;> rfl, _, rfl⟩
                      · have hd2 : decide (i < mid) = false := by simp; omega
                        have hd2' : decide ((i : Int) < (mid : Int)) = false := by simp; omega
                        have e : tk = false := by rw [HTK.out, hd1, hd2]; rfl
                        subst e
                        clear HTK
                        go_quiet (fail)
                        go_wp2
                        go_meet
                        case rel => exact ⟨rfl, _, rfl⟩
                  case rest =>
                    obtain ⟨rfl, nq, rfl⟩ := hcut
                    have hRi2 := hRi.drewN nq
                    have hRb2 := hRb.drewN nq
                    have hgr2 := grown_drewN hgr nq
                    clear hRi hRb hgr
                    generalize wr.drewN nq = W at *
                    have hol : o < bf.length := by rw [HBL.out]; omega
                    have hbc := hRb2.cell (nats_at (List.getElem?_eq_getElem hol))
                    have hbf := hRb2.frozen o
                    cases tk with
                    | true =>
                      have hcase : hiN ≤ j ∨ (i < mid ∧ PL.rankLe rank (L[i]?.getD 0) (L[j]?.getD 0) = true) := by
                        have := HTK.out
                        simp only [Bool.true_eq, Bool.or_eq_true, decide_eq_true_eq, Bool.and_eq_true] at this
                        exact this
                      have him : i < mid := by
                        have := HO.out
                        rcases hcase with h | h
                        · omega
                        · exact h.1
                      have hiL : i < L.length := by rw [HLL.out]; omega
                      have hmerge := PL.merge_left (PL.rankLe rank) L i mid j hiN him (by rw [HLL.out]; omega) (by rw [HLL.out]; omega) (by
                        rcases hcase with h | h
                        · exact .inl h
                        · by_cases hj : j < hiN
                          · have hjL : j < L.length := by rw [HLL.out]; omega
                            exact .inr ⟨hjL, by have := h.2; simpa [hiL, hjL] using this⟩
                          · exact .inl (by omega))
                      have hci := hRi2.cell (at_left (ys := rest) (nats_at (List.getElem?_eq_getElem hiL)))
                      have hRb3 := hRb2.set o (.int .i64 (L[i] : Nat))
                      have hRi3 := hRi2.setOther (c := bb) (o := o) (by omega) (.int .i64 (L[i] : Nat))
                      have hgr3 : w.grownBy (W.setCell ⟨bb, o, none⟩ (.int .i64 (L[i] : Nat))) (some g) := ⟨hgr2.os, hgr2.tape, hgr2.output, by have := hgr2.size; simpa using this, fun k hk hne => by
                        rw [heap_setCell_other W ⟨bb, o, none⟩ k _ (by have := HBB.out; simp; omega)]; exact hgr2.block k hk hne⟩
                      rw [nats_set] at hRb3
                      have hnew : (bf.set o L[i]).take (o + 1) ++ (PL.seg L (i + 1) mid).merge (PL.seg L j hiN) (PL.rankLe rank) = P0 := by
                        rw [PL.take_set_succ bf o L[i] hol, ← HMG.out, hmerge]; simp
                      have HNEW : Hid ((bf.set o L[i]).take (o + 1) ++ (PL.seg L (i + 1) mid).merge (PL.seg L j hiN) (PL.rankLe rank) = P0) := hnew
                      have hsl : (bf.set o L[i]).length = n := by rw [List.length_set]; exact HBL.out
                      have HSL : Hid ((bf.set o L[i]).length = n) := hsl
                      have HR1 : Hid (Row (W.setCell ⟨bb, o, none⟩ (.int .i64 (L[i] : Nat))) bb 3 (nats (bf.set o L[i]))) := hRb3
                      clear hmerge hcase HTK hnew hsl hRb3 hRb2 hRi2 hgr2
                      go_wp2
                      go_roundg (hiN - (o + 1))
                      case measure => omega
                      case rel => exact ⟨i + 1, j, o + 1, bf.set o L[i], rfl, by go_num, rfl, by go_num, by omega, by omega, by omega, by omega, by have := HO.out; omega, by omega, HSL.out, HNEW.out, hRi3, HR1.out, hgr3⟩
                    | false =>
                      have hcase : j < hiN ∧ (mid ≤ i ∨ PL.rankLe rank (L[i]?.getD 0) (L[j]?.getD 0) = false) := by
                        have := HTK.out
                        simp only [Bool.false_eq, Bool.or_eq_false_iff, decide_eq_false_iff_not, Bool.and_eq_false_iff] at this
                        exact ⟨by omega, by rcases this.2 with h | h; exact .inl (by omega); exact .inr h⟩
                      have hjL : j < L.length := by rw [HLL.out]; omega
                      have hmerge := PL.merge_right' (PL.rankLe rank) L i mid j hiN hcase.1 (by rw [HLL.out]; omega) (by rw [HLL.out]; omega) (by
                        rcases hcase.2 with h | h
                        · exact .inl h
                        · by_cases hi' : i < mid
                          · have hiL : i < L.length := by rw [HLL.out]; omega
                            exact .inr ⟨hiL, by simpa [hiL, hjL] using h⟩
                          · exact .inl (by omega))
                      have hjh := hcase.1
                      have hcj := hRi2.cell (at_left (ys := rest) (nats_at (List.getElem?_eq_getElem hjL)))
                      have hRb3 := hRb2.set o (.int .i64 (L[j] : Nat))
                      have hRi3 := hRi2.setOther (c := bb) (o := o) (by omega) (.int .i64 (L[j] : Nat))
                      have hgr3 : w.grownBy (W.setCell ⟨bb, o, none⟩ (.int .i64 (L[j] : Nat))) (some g) := ⟨hgr2.os, hgr2.tape, hgr2.output, by have := hgr2.size; simpa using this, fun k hk hne => by
                        rw [heap_setCell_other W ⟨bb, o, none⟩ k _ (by have := HBB.out; simp; omega)]; exact hgr2.block k hk hne⟩
                      rw [nats_set] at hRb3
                      have hnew : (bf.set o L[j]).take (o + 1) ++ (PL.seg L i mid).merge (PL.seg L (j + 1) hiN) (PL.rankLe rank) = P0 := by
                        rw [PL.take_set_succ bf o L[j] hol, ← HMG.out, hmerge]; simp
                      have HNEW : Hid ((bf.set o L[j]).take (o + 1) ++ (PL.seg L i mid).merge (PL.seg L (j + 1) hiN) (PL.rankLe rank) = P0) := hnew
                      have hsl : (bf.set o L[j]).length = n := by rw [List.length_set]; exact HBL.out
                      have HSL : Hid ((bf.set o L[j]).length = n) := hsl
                      have HR1 : Hid (Row (W.setCell ⟨bb, o, none⟩ (.int .i64 (L[j] : Nat))) bb 3 (nats (bf.set o L[j]))) := hRb3
                      clear hmerge hcase HTK hnew hsl hRb3 hRb2 hRi2 hgr2
                      go_wp2
                      go_roundg (hiN - (o + 1))
                      case measure => omega
                      case rel => exact ⟨i, j + 1, o + 1, bf.set o L[j], rfl, rfl, by go_num, by go_num, by omega, by omega, by omega, by omega, by have := HO.out; omega, by omega, HSL.out, HNEW.out, hRi3, HR1.out, hgr3⟩
                · have e1 : o = hiN := by omega
                  have e2 : i = mid := by have := HO.out; omega
                  have e3 : j = hiN := by have := HO.out; omega
                  have hfin : bf.take hiN = P0 := by
                    have := HMG.out
                    rw [e1, e2, e3, PL.seg_self L mid mid (Nat.le_refl _), PL.seg_self L hiN hiN (Nat.le_refl _)] at this
                    simpa using this
                  have hnx := PL.runs_next (PL.rankLe rank) wd (by omega) L bf lo (by rw [HLL.out]; exact hln) (by rw [HBL.out, HLL.out]) (by
                    rw [HLL.out, ← HMID.out, ← HHI.out, hfin, HP0.out]) HPS.out.2
                  have HNX : Hid (bf.take (lo + 2 * wd) = (PL.pass (PL.rankLe rank) wd L).take (lo + 2 * wd) ∧ (PL.pass (PL.rankLe rank) wd L).take (lo + 2 * wd) ++ PL.pass (PL.rankLe rank) wd (L.drop (lo + 2 * wd)) = PL.pass (PL.rankLe rank) wd L) := hnx
                  clear hfin hnx e1 e2 e3
                  go_wp2
                  go_roundg (n - (lo + 2 * wd))
                  case measure => omega
                  case rel => exact ⟨lo + 2 * wd, bf, rfl, by go_num, by omega, HBL.out, HNX.out, hRi, hRb, hgr⟩
        · have hbe : bf = PL.pass (PL.rankLe rank) wd L := by
            have h1 := HPS.out.1
            rwa [List.take_of_length_le (by omega), List.take_of_length_le (by rw [PL.pass_len _ wd (by omega), HLL.out]; omega)] at h1
          subst hbe
          have hps2 := PL.pass_perm (PL.rankLe rank) wd (by omega) _ L rfl
          have hch2 := PL.pass_chunk (PL.rankLe rank) (PL.rankLe_trans rank) (PL.rankLe_total rank) wd (by omega) _ L rfl HCH.out
          have HP2 : Hid ((PL.pass (PL.rankLe rank) wd L).Perm ids) := hps2.trans HPM.out
          have HC2 : Hid (PL.Chunk (PL.rankLe rank) (2 * wd) (PL.pass (PL.rankLe rank) wd L)) := hch2
          clear hps2 hch2 HPS
          generalize PL.pass (PL.rankLe rank) wd L = M at *
          have hMl : M.length = n := hbl
          have hcl : (nats M).length = n := by rw [nats_len]; exact hMl
          have hLn : (nats L).length = n := by rw [nats_len]; exact HLL.out
          have hlong : (nats L ++ rest).toArray.size = n + rest.length := by simp [hLn]
          have hRg' : ∀ W : World, W.heap[g]? = some (.cells (nats L ++ rest).toArray 3 (0, 0)) → Row (W.setRow g ((nats L ++ rest).toArray.toList.take 0 ++ (nats M ++ (nats L ++ rest).toArray.toList.drop (0 + (nats M).length))).toArray) g 3 (nats M ++ rest) := fun W hW => by
            have := setRow_heap W g _ ((nats L ++ rest).toArray.toList.take 0 ++ (nats M ++ (nats L ++ rest).toArray.toList.drop (0 + (nats M).length))).toArray 3 _ hW
            unfold Row
            rw [this]
            simp [hcl, ← hLn]
          have HRG : Hid (∀ W : World, W.heap[g]? = some (.cells (nats L ++ rest).toArray 3 (0, 0)) → Row (W.setRow g ((nats L ++ rest).toArray.toList.take 0 ++ (nats M ++ (nats L ++ rest).toArray.toList.drop (0 + (nats M).length))).toArray) g 3 (nats M ++ rest)) := hRg'
          have HCL : Hid ((nats M).length = n) := hcl
          have HLONG : Hid ((nats L ++ rest).toArray.size = n + rest.length) := hlong
          have HBL : Hid (M.length = n) := hbl
          clear hRg' hcl hLn hlong hMl hbl
          obtain ⟨W2, hcp, hRi3, hRb3, hgr3⟩ : ∃ W2, (Builtin.copy_ #[23, 23] 3 #[.slice (some ⟨g, 0, none⟩) n cap, .slice (some ⟨bb, 0, none⟩) n n]).run Try.prog wr = .ok (goInt n) W2 ∧ Row W2 g 3 (nats M ++ rest) ∧ Row W2 bb 3 (nats M) ∧ w.grownBy W2 (some g) := by
            have hcp := run_copy_row (P := Try.prog) wr 23 23 3 3 g 0 n cap ⟨bb, 0, none⟩ n n (nats L ++ rest).toArray 3 (nats M) Try.underlying23 hinfo hRi (by rw [HCL.out]; exact (Nat.min_self n).symm) (fun j v hv => by rw [Addr.add_lit, Nat.zero_add]; exact hRb.cell hv) (by rw [HCL.out, HLONG.out]; omega) (by intro v hv; simp only [nats, List.mem_map] at hv; obtain ⟨_, _, rfl⟩ := hv; rfl)
            rw [List.append_assoc] at hcp
            have hRi3 := HRG.out _ hRi
            refine ⟨_, by rw [hcp, HCL.out], hRi3, ?_, ⟨hgr.os, hgr.tape, hgr.output, by have := hgr.size; simpa using this, fun k hk hne => by rw [setRow_other wr g k _ (fun e => hne (by rw [e]))]; exact hgr.block k hk hne⟩⟩
            unfold Row; rw [setRow_other wr g bb _ (by omega)]; exact hRb
          clear hRi hRb hgr HRG HCL HLONG
          go_wp2
          go_roundg (n - 2 * wd)
          case measure => omega
          case rel => exact ⟨2 * wd, M, M, rfl, by omega, by omega, by go_num, HP2.out, HC2.out, HBL.out, hRi3, hRb3, hgr3⟩
    · have hsorted := PL.chunk_all (PL.rankLe rank) wd L HCH.out (by rw [HLL.out]; omega)
      have HSO : Hid (L.Pairwise (fun a b => PL.rankLe rank a b = true)) := hsorted
      clear hsorted
      go_wp2
      go_end0
      exact ⟨rfl, L, HPM.out, HSO.out, hRi, hgr⟩
end Go.Proofs.Qxb6600010a

