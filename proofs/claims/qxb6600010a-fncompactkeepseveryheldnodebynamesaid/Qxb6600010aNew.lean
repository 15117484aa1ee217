/-
  THE WALK of ZZNew.
-/
import Derived.Test.Qxb6600010aNewP
import Derived.BigRegion
import Derived.Deep.RegionLaw
import Derived.Deep.DrawnRows
namespace Go.Proofs.Qxb6600010a
open Go.RowKit
set_option linter.unusedVariables false
set_option linter.unusedSimpArgs false
attribute [local go_sem ↓] Go.wp_at_zero Go.wp_at_succ

set_option maxHeartbeats 20000000 in
set_option maxRecDepth 100000 in
theorem new_any (w : World) (n : Nat) (names : List ByteArray) (S : PL.MS) (J : Nat → List Nat) (jf : Nat → Option Nat) (ls vi pr ho : List Nat) (nu : List Bool) (nmb tb qb jb lb vb rb hb ub r : Nat) (TV QV JV : List Value)
    (hn0 : 0 < n) (hn : n ≤ 65536) (hr : r ≤ 65536) (ha : PL.Apart names n) (hsz : ∀ k : Nat, (names[k]?.getD ⟨#[]⟩).size ≤ maxLen) (hMI : PL.MInv n 65536 S) (h : NewIn w n names S J jf ls vi pr ho nu nmb tb qb jb lb vb rb hb ub TV QV JV) :
    Calls Try.prog 44 #[slc nmb n, slc tb n, slc qb n, slc jb n, slc lb n, slc vb n, slc rb n, slc hb n, slc ub n, .int .i64 (r : Int)] w fun e w' => ∃ (p : Nat) (b : PB), e = .returned (.pointer (some ⟨p, 0, none⟩)) ∧ PsAt w' p n (pdNew n names S J ls vi pr ho nu r) b ∧ Kp w.heap.size [] w w' ∧
      b.jb = jf ∧ b.pc = n ∧ b.nx = .slice none 0 0 ∧ b.qu = .slice none 0 0 ∧ w.heap.size ≤ p ∧ w.heap.size ≤ b.nb ∧ w.heap.size ≤ b.mb ∧ w.heap.size ≤ b.pb ∧ p ≠ b.nb ∧ p ≠ b.mb ∧ p ≠ b.pb ∧ b.nb ≠ b.pb ∧ ∀ k g, k < n → b.lk k = some g → w.heap.size ≤ g ∧ g ≠ p ∧ g ≠ b.nb ∧ g ≠ b.pb ∧ g ≠ b.mb := by
  have hmk71 := run_make_wide (P := Try.prog) 71 79 _ 4 56 Try.underlying71 info79 .i64 .i64 n (by omega) (by omega)
  have hmk73 := run_make_wide (P := Try.prog) 73 70 _ 3 24 Try.underlying73 info70 .i64 .i64 n (by omega) (by omega)
  have hmm := @run_makeMap Try.prog
  have HI : Hid (NewIn w n names S J jf ls vi pr ho nu nmb tb qb jb lb vb rb hb ub TV QV JV) := h
  have HMI : Hid (PL.MInv n 65536 S) := hMI
  have HA : Hid (PL.Apart names n) := ha
  have HSZ : Hid (∀ k : Nat, (names[k]?.getD ⟨#[]⟩).size ≤ maxLen) := hsz
  have HNL : Hid (names.length = n) := h.nml
  clear h hMI ha hsz
  unfold slc
  go_enter Try.func44, Try.ntmps44
  go_wp2
  obtain ⟨B, hB⟩ : ∃ B, w.heap.size = B := ⟨_, rfl⟩
  have HB : Hid (w.heap.size = B) := hB
  obtain ⟨w1, hw1⟩ : ∃ w1, w1 = ((((w.alloc (Obj.map #[] 0)).alloc (Obj.cells #[Value.slice (some ⟨w.heap.size + 1 + 1, 0, none⟩) n n, Value.map (some w.heap.size), Value.int IntKind.i64 ↑r, Value.slice (some ⟨w.heap.size + 1 + 1 + 1, 0, none⟩) n n, Value.slice none 0 0, Value.slice none 0 0] 75)).alloc (Obj.cells (madeCells #[Value.string { data := #[] }, Value.map none, Value.slice none 0 0, Value.int IntKind.i64 0] (n * 4)) 79)).alloc (Obj.cells (madeCells #[Value.int IntKind.i64 0, Value.int IntKind.i64 0, Value.int IntKind.i64 0] (n * 3)) 70)) := ⟨_, rfl⟩
  have hK1 : Kp B [] w w1 := by rw [hw1, ← hB]; exact ((((Kp.refl _ _ _).alloc (Nat.le_refl _) _).alloc (by simp) _).alloc (by simp; omega) _).alloc (by simp; omega) _
  have hst : Row w1 (B + 1) 75 [.slice (some ⟨B + 2, 0, none⟩) n n, .map (some B), .int .i64 (r : Int), .slice (some ⟨B + 3, 0, none⟩) n n, .slice none 0 0, .slice none 0 0] := by
    have h := row_new (w.alloc (Obj.map #[] 0)) [.slice (some ⟨w.heap.size + 1 + 1, 0, none⟩) n n, .map (some w.heap.size), .int .i64 (r : Int), .slice (some ⟨w.heap.size + 1 + 1 + 1, 0, none⟩) n n, .slice none 0 0, .slice none 0 0] 75
    rw [World.size_alloc, hB] at h
    rw [hw1, hB]; exact (h.alloc _).alloc _
  have hz1 : ZAt w1 (B + 2) (B + 3) B n (fun _ => ⟨#[]⟩) (fun _ => .map none) (fun _ => .slice none 0 0) (fun _ => 0) (fun _ => pt0) 0 (fun _ => none) := by
    refine ⟨⟨_, ?_, nat_made n⟩, ⟨_, ?_, pat_made n, by simp [size_madeCells]⟩, ?_⟩
    · rw [hw1]
      have h := row_madeW ((w.alloc (Obj.map #[] 0)).alloc (Obj.cells #[Value.slice (some ⟨w.heap.size + 1 + 1, 0, none⟩) n n, Value.map (some w.heap.size), Value.int IntKind.i64 ↑r, Value.slice (some ⟨w.heap.size + 1 + 1 + 1, 0, none⟩) n n, Value.slice none 0 0, Value.slice none 0 0] 75)) [Value.string { data := #[] }, Value.map none, Value.slice none 0 0, Value.int IntKind.i64 0] (n * 4) 79
      rw [World.size_alloc, World.size_alloc, hB] at h
      rw [hB]; exact h.alloc _
    · rw [hw1]
      have h := row_madeW (((w.alloc (Obj.map #[] 0)).alloc (Obj.cells #[Value.slice (some ⟨w.heap.size + 1 + 1, 0, none⟩) n n, Value.map (some w.heap.size), Value.int IntKind.i64 ↑r, Value.slice (some ⟨w.heap.size + 1 + 1 + 1, 0, none⟩) n n, Value.slice none 0 0, Value.slice none 0 0] 75)).alloc (Obj.cells (madeCells #[Value.string { data := #[] }, Value.map none, Value.slice none 0 0, Value.int IntKind.i64 0] (n * 4)) 79)) [Value.int IntKind.i64 0, Value.int IntKind.i64 0, Value.int IntKind.i64 0] (n * 3) 70
      rw [World.size_alloc, World.size_alloc, World.size_alloc, hB] at h
      rw [hB]; exact h
    · rw [hw1, hB]
      have h := map_made kS w 9
      rw [hB] at h
      exact ((h.kept (World.grownBy_alloc _ _ none) (by simp)).kept (World.grownBy_alloc _ _ none) (by simp)).kept (World.grownBy_alloc _ _ none) (by simp)
  have hsz1 : w1.heap.size = B + 4 := by rw [hw1, World.size_alloc, World.size_alloc, World.size_alloc, World.size_alloc, hB]
  have HK1 : Hid (Kp B [] w w1) := hK1
  clear hK1
  rw [← hw1, hB]
  have HST : Hid (Row w1 (B + 1) 75 [.slice (some ⟨B + 2, 0, none⟩) n n, .map (some B), .int .i64 (r : Int), .slice (some ⟨B + 3, 0, none⟩) n n, .slice none 0 0, .slice none 0 0]) := hst
  have HSZ1 : Hid (w1.heap.size = B + 4) := hsz1
  clear hw1 hB hst hsz1
  generalize hnuf : (fun k : Nat => nu[k]?.getD false) = nuf at *
  have HNUF : Hid ((fun k : Nat => nu[k]?.getD false) = nuf) := hnuf
  clear hnuf
  go_loopg [43] n (fun g s wr => ∃ (k : Nat) (lkf : Nat → Option Nat), g = n - k ∧ k ≤ n ∧ s = .int .i64 k ∧ ZAt wr (B + 2) (B + 3) B n (pre k (fun k => names[k]?.getD ⟨#[]⟩) ⟨#[]⟩) (pre k (fun k => .map (lkf k)) (.map none)) (pre k (fun k => jval (jf k) (J k).length) (.slice none 0 0)) (pre k (fun k => ls[k]?.getD 0) 0) (pre k (fun k => ⟨vi[k]?.getD 0, pr[k]?.getD 0, ho[k]?.getD 0⟩) pt0) (PL.ncOf nuf k) (PL.numOf names nuf k) ∧
    (∀ i, i < k → lkf i = none → (PL.tg S.T i).length = 0) ∧ (∀ i g, i < k → lkf i = some g → B + 4 ≤ g ∧ MapAt kN wr 3 g (PL.tg S.T i).length (fun t => if S.ct (i, t) = 0 then none else some (S.ct (i, t) : Int))) ∧ Kp (B + 4) [B + 2, B + 3, B] w1 wr)
  case atStart => exact ⟨0, fun _ => none, rfl, by omega, rfl, by simp only [pre_zero]; exact hz1, fun i hi => by omega, fun i g hi => by omega, Kp.refl _ _ _⟩
  case round =>
    clear hz1
    obtain ⟨k, lkf, rfl, hk, rfl, hZ, hL0, hL1, hK⟩ := hrel
    by_cases hkn : k < n
    · have HL0 : Hid (∀ i, i < k → lkf i = none → (PL.tg S.T i).length = 0) := hL0
      have HL1 : Hid (∀ i g, i < k → lkf i = some g → B + 4 ≤ g ∧ MapAt kN wr 3 g (PL.tg S.T i).length (fun t => if S.ct (i, t) = 0 then none else some (S.ct (i, t) : Int))) := hL1
      clear hL0 hL1
      have HKr : Hid (Kp (B + 4) [B + 2, B + 3, B] w1 wr) := hK
      obtain ⟨W0, hW0⟩ : ∃ W0, wr.heap.size = W0 := ⟨_, rfl⟩
      have hW1 : B + 4 ≤ W0 := by rw [← hW0, ← HSZ1.out]; exact hK.size
      have HTO : Hid (∀ wx, Kp W0 [B + 2, B + 3, B] wr wx → Kp (B + 4) [B + 2, B + 3, B] w1 wx) := fun wx h => hK.trans (h.mono hW1 (fun _ _ h => h))
      have HTW : Hid (∀ wx, Kp W0 [B + 2, B + 3, B] wr wx → Kp B [] w wx) := fun wx h => HK1.out.trans ((hK.trans (h.mono hW1 (fun _ _ h => h))).mono (by omega) (fun q h1 h2 => by simp at h2; omega))
      have HW0 : Hid (wr.heap.size = W0) := hW0
      obtain ⟨nm, hnm⟩ : ∃ nm, names[k]? = some nm := ⟨_, List.getElem?_eq_getElem (by rw [HNL.out]; exact hkn)⟩
      have HNM : Hid (names[k]? = some nm) := hnm
      -- the name
      have a1 := (arg_row HI.out.nms HB.out HK1.out hK).cell (strs_at hnm)
      have s0 := (HST.out.kp hK (by omega) (by simp)).cell (i := 0) rfl
      obtain ⟨cs, hcs, hN⟩ := hZ.nodes
      have d1 := hcs.cell (hN.nm k hkn)
      have d2 := hcs.frozen (k * 4)
      rw [pre_self] at d1
      have hZ1 := (hZ.node (i := k * 4) (v := .string nm) (by omega) (by omega) (fun cs h => h.set0 hkn nm)).drew
      have hK1 : Kp W0 [B + 2, B + 3, B] wr (wr.setCell ⟨B + 2, k * 4, none⟩ (.string nm)).drew := ((Kp.refl _ _ _).setCell (.inr (by simp)) (.string nm)).drew
      clear hcs hN hnm hZ hK hmm hmk71 hmk73 hW0
      go_wp2_with fail
      go_region
      go_wp2_with fail
      generalize (wr.setCell ⟨B + 2, k * 4, none⟩ (Value.string nm)).drew = wx1 at *
      clear a1 s0 d1 d2
      -- the listers
      obtain ⟨l, hl⟩ : ∃ l, ls[k]? = some l := ⟨_, List.getElem?_eq_getElem (by rw [HI.out.lsl]; exact hkn)⟩
      have HLS : Hid (ls[k]? = some l) := hl
      have a1 := (arg_row HI.out.lsr HB.out HK1.out (HTO.out _ hK1)).cell (nats_at hl)
      have s0 := (HST.out.kp (HTO.out _ hK1) (by omega) (by simp)).cell (i := 0) rfl
      obtain ⟨cs, hcs, hN⟩ := hZ1.nodes
      have d1 := hcs.cell (hN.ls k hkn)
      have d2 := hcs.frozen (k * 4 + 3)
      have hZ2 := (hZ1.node (i := k * 4 + 3) (v := .int .i64 (l : Int)) (by omega) (by omega) (fun cs h => h.set3 hkn l)).drew
      have hK2 := (hK1.setCell (b := B + 2) (o := k * 4 + 3) (.inr (by simp)) (.int .i64 (l : Int))).drew
      clear hcs hN hl hZ1 hK1
      go_region
      go_wp2_with fail
      generalize (wx1.setCell ⟨B + 2, k * 4 + 3, none⟩ (Value.int .i64 (l : Int))).drew = wx2 at *
      clear a1 s0 d1 d2
      -- the joined list
      obtain ⟨jv, hjv⟩ : ∃ jv, jval (jf k) (J k).length = jv := ⟨_, rfl⟩
      have HJV : Hid (jval (jf k) (J k).length = jv) := hjv
      have a1 := (arg_row HI.out.jv HB.out HK1.out (HTO.out _ hK2)).cell (HI.out.jvo k hkn)
      rw [hjv] at a1
      have s0 := (HST.out.kp (HTO.out _ hK2) (by omega) (by simp)).cell (i := 0) rfl
      obtain ⟨cs, hcs, hN⟩ := hZ2.nodes
      have d1 := hcs.cell (hN.jv k hkn)
      have d2 := hcs.frozen (k * 4 + 2)
      have hZ3 := (hZ2.node (i := k * 4 + 2) (v := jv) (by omega) (by omega) (fun cs h => h.set2 hkn jv)).drew
      have hK3 := (hK2.setCell (b := B + 2) (o := k * 4 + 2) (.inr (by simp)) jv).drew
      clear hcs hN hjv hZ2 hK2
      have hj1 : ∃ ao ln cp, jv = .slice ao ln cp := by
        rw [← HJV.out]
        cases jf k with
        | none => exact ⟨_, _, _, rfl⟩
        | some g => exact ⟨_, _, _, rfl⟩
      obtain ⟨ao, ln, cp, rfl⟩ := hj1
      go_region
      go_upto_region 10 with fail
      generalize (wx2.setCell ⟨B + 2, k * 4 + 2, none⟩ (Value.slice ao ln cp)).drew = wx3 at *
      clear a1 s0 d1 d2
      -- the links
      obtain ⟨tv, htv⟩ : ∃ tv, TV[k]? = some tv := ⟨_, List.getElem?_eq_getElem (by rw [HI.out.tvl]; exact hkn)⟩
      obtain ⟨base, hown⟩ := HI.out.tvo k tv htv
      have hownl : ∀ q, tv.ownBlock = some q → q < B := fun q hq => by rw [← HB.out]; exact (owns_block hown q hq).2.1
      obtain ⟨tao, tc, rfl, _⟩ := owns_form hown
      have a1 := (arg_row HI.out.tv HB.out HK1.out (HTO.out _ hK3)).cell htv
      have hsh := HMI.out.short k
      obtain ⟨tk, htk⟩ : ∃ tk, (PL.tg S.T k).length = tk := ⟨_, rfl⟩
      rw [htk] at a1 hown hsh hownl
      have HTK : Hid ((PL.tg S.T k).length = tk) := htk
      rw [htk] at htv
      have HTVK : Hid (TV[k]? = some (Value.slice tao tk tc)) := htv
      have HOWN : Hid (w.ownsRow base 3 1 (Value.slice tao tk tc) tk (nats (PL.tg S.T k))) := hown
      have HOWNL : Hid (∀ q, Value.ownBlock (Value.slice tao tk tc) = some q → q < B) := hownl
      clear htk htv hown hownl
      go_upto_if 84 with fail
      obtain ⟨W3, hW3⟩ : ∃ W3, wx3.heap.size = W3 := ⟨_, rfl⟩
      have hW30 : W0 ≤ W3 := by rw [← hW3, ← HW0.out]; exact hK3.size
      have HW3 : Hid (wx3.heap.size = W3) := hW3
      clear hW3
      go_cut [] (fun wc => ∃ lo : Option Nat, ZAt wc (B + 2) (B + 3) B n (upd (pre k (fun k => names[k]?.getD ⟨#[]⟩) ⟨#[]⟩) k nm) (upd (pre k (fun k => .map (lkf k)) (.map none)) k (.map lo)) (upd (pre k (fun k => jval (jf k) (J k).length) (.slice none 0 0)) k (.slice ao ln cp)) (upd (pre k (fun k => ls[k]?.getD 0) 0) k l) (pre k (fun k => ⟨vi[k]?.getD 0, pr[k]?.getD 0, ho[k]?.getD 0⟩) pt0) (PL.ncOf nuf k) (PL.numOf names nuf k) ∧
        (lo = none → tk = 0) ∧ (∀ g, lo = some g → W3 ≤ g ∧ MapAt kN wc 3 g tk (fun t => if S.ct (k, t) = 0 then none else some (S.ct (k, t) : Int))) ∧ Kp W3 [B + 2] wx3 wc)
      case first =>
        by_cases htk0 : tk = 0
        · subst htk0
          go_wp2
          go_meet
          case rel =>
            refine ⟨none, ?_, by simp, by simp, Kp.refl _ _ _⟩
            have e : upd (pre k (fun k => Value.map (lkf k)) (Value.map none)) k (.map none) = pre k (fun k => Value.map (lkf k)) (Value.map none) := by
              have := upd_id (pre k (fun k => Value.map (lkf k)) (Value.map none)) k
              rw [pre_self] at this; exact this
            rw [e]; exact hZ3
        · have g1 : decide ((0 : Int) < (tk : Int)) = true := by simp; omega
          have g2 : decide (0 < tk) = true := by simp; omega
          have g3 : 0 < tk := by omega
          have hmm := @run_makeMap_hint Try.prog 77 3 3 Try.underlying77 .i64 (tk : Int)
          have s0 := (HST.out.kp (HTO.out _ hK3) (by omega) (by simp)).cell (i := 0) rfl
          obtain ⟨cs, hcs, hN⟩ := hZ3.nodes
          have d1 := hcs.cell (hN.lk k hkn)
          have d2 := hcs.frozen (k * 4 + 1)
          rw [pre_self] at d1
          have hl2 := hcs.lt
          have hl1 : B + 1 < wx3.heap.size := by omega
          have hl3 := (arg_row HI.out.tv HB.out HK1.out (HTO.out _ hK3)).lt
          have d1a := (World.cell?_alloc_lt wx3 (Obj.map #[] 0) ⟨B + 2, k * 4 + 1, none⟩ hl2).trans d1
          have d2a := ((World.frozen?_alloc_past _ _ _ hl2).trans d2 : (wx3.alloc (Obj.map #[] 0)).frozen? ⟨B + 2, k * 4 + 1, none⟩ = false)
          have s0a := (World.cell?_alloc_lt wx3 (Obj.map #[] 0) ⟨B + 1, 0, none⟩ hl1).trans s0
          have a1a := (World.cell?_alloc_lt wx3 (Obj.map #[] 0) ⟨tb, k, none⟩ hl3).trans a1
          clear hcs hN
          go_wp2_with fail
          go_region
          go_upto_region 12 with fail
          rw [HW3.out]
          obtain ⟨wm, hwm⟩ : ∃ wm, wm = ((wx3.setCell ⟨B + 2, k * 4 + 1, none⟩ (Value.map (some W3))).alloc (Obj.map #[] 0)).drew := ⟨_, rfl⟩
          have hZm : ZAt wm (B + 2) (B + 3) B n (upd (pre k (fun k => names[k]?.getD ⟨#[]⟩) ⟨#[]⟩) k nm) (upd (pre k (fun k => .map (lkf k)) (.map none)) k (.map (some W3))) (upd (pre k (fun k => jval (jf k) (J k).length) (.slice none 0 0)) k (.slice ao ln cp)) (upd (pre k (fun k => ls[k]?.getD 0) 0) k l) (pre k (fun k => ⟨vi[k]?.getD 0, pr[k]?.getD 0, ho[k]?.getD 0⟩) pt0) (PL.ncOf nuf k) (PL.numOf names nuf k) := by
            rw [hwm]
            exact ((hZ3.node (i := k * 4 + 1) (v := .map (some W3)) (by omega) (by omega) (fun cs h => h.set1 hkn (.map (some W3)))).grown (World.grownBy_alloc _ _ none) (by simp) (by simp) (by simp)).drew
          have hMm : MapAt kN wm 3 W3 0 (fun _ => none) := by
            rw [hwm]
            have h := map_made kN (wx3.setCell ⟨B + 2, k * 4 + 1, none⟩ (Value.map (some W3))) 3
            have e : (wx3.setCell ⟨B + 2, k * 4 + 1, none⟩ (Value.map (some W3))).heap.size = W3 := by rw [← HW3.out]; simp
            rw [e] at h
            exact h.kept (grown_drew (grown_refl _ none)) (by simp)
          have hKm : Kp W3 [B + 2] wx3 wm := by
            rw [hwm]
            exact (((Kp.refl W3 [B + 2] wx3).setCell (b := B + 2) (o := k * 4 + 1) (.inr (by simp)) (Value.map (some W3))).alloc (by simp; rw [HW3.out]; exact Nat.le_refl _) _).drew
          rw [← hwm]
          have hKwm : Kp W0 [B + 2, B + 3, B] wr wm := hK3.trans (hKm.mono hW30 (fun q _ h => by simp at h; simp [h]))
          clear hwm hmm s0 d1 d2 d1a d2a s0a a1a hl2 hl1 hl3 a1
          have HZ3 : Hid (ZAt wm (B + 2) (B + 3) B n (upd (pre k (fun k => names[k]?.getD ⟨#[]⟩) ⟨#[]⟩) k nm) (upd (pre k (fun k => .map (lkf k)) (.map none)) k (.map (some W3))) (upd (pre k (fun k => jval (jf k) (J k).length) (.slice none 0 0)) k (.slice ao ln cp)) (upd (pre k (fun k => ls[k]?.getD 0) 0) k l) (pre k (fun k => ⟨vi[k]?.getD 0, pr[k]?.getD 0, ho[k]?.getD 0⟩) pt0) (PL.ncOf nuf k) (PL.numOf names nuf k)) := hZm
          clear hZm hZ3
          have a1 := (HI.out.tv.kp (HTW.out _ hKwm) (by rw [← HB.out]; exact HI.out.tv.lt) (by simp)).cell (i := k) (v := Value.slice tao tk tc) (by
            have := HTVK.out; exact this)
          go_wp2_with fail
          go_loopg [103] tk (fun g s wi => ∃ t : Nat, g = tk - t ∧ t ≤ tk ∧ s = .int .i64 t ∧ MapAt kN wi 3 W3 t (fun x => if x ∈ (PL.tg S.T k).take t then some (S.ct (k, x) : Int) else none) ∧ Kp W3 [] wm wi)
          case atStart => exact ⟨0, rfl, by omega, rfl, by simpa using hMm, Kp.refl _ _ _⟩
          case round =>
            clear hMm a1
            rename World => wi
            obtain ⟨t, rfl, ht, rfl, hM, hKi⟩ := hrel
            have hKwi : Kp W0 [B + 2, B + 3, B] wr wi := hKwm.trans (hKi.mono hW30 (by simp))
            by_cases htt : t < tk
            · obtain ⟨x, hx⟩ : ∃ x, (PL.tg S.T k)[t]? = some x := ⟨_, List.getElem?_eq_getElem (by rw [HTK.out]; exact htt)⟩
              have hown2 := owns_kp HOWN.out (HTW.out _ hKwi) (fun q hq => ⟨HOWNL.out q hq, by simp⟩)
              obtain ⟨g', cap', rest', hge, _, hrow', _, _, _⟩ := owns_to_row hown2 (by omega)
              simp only [Value.slice.injEq, true_and] at hge
              obtain ⟨rfl, rfl⟩ := hge
              have b1 := hrow'.cell (at_left (nats_at hx))
              have hxr := HMI.out.rng k x ((HMI.out.mem k x).1 (List.mem_of_getElem? hx))
              have hxn : x < n := hxr.2.1
              obtain ⟨qv, hqv⟩ : ∃ qv, QV[k]? = some qv := ⟨_, List.getElem?_eq_getElem (by rw [HI.out.qvl]; exact hkn)⟩
              obtain ⟨qg, rfl, hqrow⟩ := HI.out.qvo k qv hqv
              have c1 := (HI.out.qv.kp (HTW.out _ hKwi) (by rw [← HB.out]; exact HI.out.qv.lt) (by simp)).cell hqv
              rw [HTK.out] at c1
              unfold slc at c1
              have c2 := (hqrow.kp (HTW.out _ hKwi) (by rw [← HB.out]; exact hqrow.lt) (by simp)).cell (i := t) (v := .int .i64 (S.ct (k, x) : Int)) (nats_at (by rw [List.getElem?_map, hx]; rfl))
              have s0 := (HST.out.kp (HTO.out _ hKwi) (by omega) (by simp)).cell (i := 0) rfl
              obtain ⟨cs, hcs, hN⟩ := (HZ3.out.kp hKi (by omega) (by omega) (by omega) (by simp) (by simp) (by simp)).nodes
              have d1 := hcs.cell (hN.lk k hkn)
              rw [upd_same] at d1
              have hMd : MapAt kN wi.drew 3 W3 t (fun x => if x ∈ (PL.tg S.T k).take t then some (S.ct (k, x) : Int) else none) := hM.kept (grown_drew (grown_refl _ none)) (by simp)
              have hsm := HMI.out.small (k, x)
              have hnot : x ∉ (PL.tg S.T k).take t := by
                intro hm
                obtain ⟨i, hi, he⟩ := List.getElem_of_mem hm
                simp at hi
                obtain ⟨h1, h2⟩ := List.getElem?_eq_some_iff.1 hx
                rw [List.getElem_take] at he
                have := nodup_inj2 (HMI.out.nodup k) i t (by omega) h1 (he.trans h2.symm)
                omega
              obtain ⟨lk, hlk⟩ := key3 (a := x) (by omega)
              obtain ⟨w', hrun, hg', hM'⟩ := hMd.store (t := 77) kN_inj keyed3 Try.underlying77 (by omega) hlk (S.ct (k, x) : Int) (wf_small (by omega) (by omega))
              have HM' : Hid (MapAt kN w' 3 W3 (t + 1) (fun y => if y ∈ (PL.tg S.T k).take (t + 1) then some (S.ct (k, y) : Int) else none)) := by
                have h1 := hM'.congr (g := fun y => if y ∈ (PL.tg S.T k).take (t + 1) then some (S.ct (k, y) : Int) else none) (fun y => by
                  obtain ⟨htl, hte⟩ := List.getElem?_eq_some_iff.1 hx
                  rw [List.take_succ_eq_append_getElem htl, hte]
                  by_cases e : y = x
                  · subst e; simp
                  · simp [e])
                show MapAt kN w' 3 W3 (t + 1) (fun y => if y ∈ (PL.tg S.T k).take (t + 1) then some (S.ct (k, y) : Int) else none)
                simpa [hnot] using h1
              have HK' : Hid (Kp W3 [] wm w') := hKi.trans ((Kp.refl _ _ _).grown (grown_of_drew hg') (by have := hM.lt; omega) (fun q hq => .inl (by cases hq; exact Nat.le_refl _)))
              unfold kN at hrun
              generalize S.ct (k, x) = ctv at *
              clear hx hown2 hrow' hxr hqv hqrow hcs hN hMd hnot hlk hg' hM' hM hKi
              go_wp2_with fail
              go_region
              all_goals
                go_wp2
                go_roundg (tk - (t + 1))
                case measure => omega
                case rel => exact ⟨t + 1, rfl, by omega, by go_num, HM'.out, HK'.out⟩
            · have e : tk = t := by omega
              subst e
              have HM2 : Hid (MapAt kN wi 3 W3 tk (fun t => if S.ct (k, t) = 0 then none else some (S.ct (k, t) : Int))) := hM.congr (fun y => by
                rw [← HTK.out, List.take_length]
                by_cases hy : y ∈ PL.tg S.T k
                · have := (HMI.out.mem k y).1 hy
                  rw [if_pos hy, if_neg (by omega)]
                · have : ¬ 0 < S.ct (k, y) := fun h => hy ((HMI.out.mem k y).2 h)
                  rw [if_neg hy, if_pos (by omega)])
              have HZ4 := HZ3.out.kp hKi (by omega) (by omega) (by omega) (by simp) (by simp) (by simp)
              have hKf : Kp W3 [B + 2] wx3 wi := hKm.trans (hKi.mono (Nat.le_refl _) (by simp))
              clear hM
              go_wp2
              go_meet
              case rel =>
                refine ⟨some W3, HZ4, ?_, ?_, hKf⟩
                · intro h; cases h
                · intro g hg; cases hg; exact ⟨Nat.le_refl _, HM2.out⟩
      case rest =>
        obtain ⟨lo, hZ4, hlo0, hlo1, hK4⟩ := hcut
        have HLO0 : Hid (lo = none → tk = 0) := hlo0
        have HLO1 : Hid (∀ g, lo = some g → W3 ≤ g ∧ MapAt kN wc 3 g tk (fun t => if S.ct (k, t) = 0 then none else some (S.ct (k, t) : Int))) := hlo1
        have hKw4 : Kp W0 [B + 2, B + 3, B] wr wc := hK3.trans (hK4.mono hW30 (fun q _ h => by simp at h; simp [h]))
        have hszc : W3 ≤ wc.heap.size := by have := hK4.size; rw [HW3.out] at this; exact this
        clear hlo0 hlo1 hZ3 hK4 a1
        obtain ⟨x1, hx1⟩ : ∃ x, vi[k]? = some x := ⟨_, List.getElem?_eq_getElem (by rw [HI.out.vil]; exact hkn)⟩
        obtain ⟨x2, hx2⟩ : ∃ x, pr[k]? = some x := ⟨_, List.getElem?_eq_getElem (by rw [HI.out.prl]; exact hkn)⟩
        obtain ⟨x3, hx3⟩ : ∃ x, ho[k]? = some x := ⟨_, List.getElem?_eq_getElem (by rw [HI.out.hol]; exact hkn)⟩
        obtain ⟨nv, hnv⟩ : ∃ x, nu[k]? = some x := ⟨_, List.getElem?_eq_getElem (by rw [HI.out.nul]; exact hkn)⟩
        have a1 := (HI.out.vir.kp (HTW.out _ hKw4) (by rw [← HB.out]; exact HI.out.vir.lt) (by simp)).cell (nats_at hx1)
        have a2 := (HI.out.prr.kp (HTW.out _ hKw4) (by rw [← HB.out]; exact HI.out.prr.lt) (by simp)).cell (nats_at hx2)
        have a3 := (HI.out.hor.kp (HTW.out _ hKw4) (by rw [← HB.out]; exact HI.out.hor.lt) (by simp)).cell (nats_at hx3)
        have s3 := (HST.out.kp (HTO.out _ hKw4) (by omega) (by simp)).cell (i := 3) rfl
        obtain ⟨cp', hcp, hP, _⟩ := hZ4.paths
        have d1 := hcp.cell (hP.via k hkn)
        have d2 := hcp.cell (hP.prev k hkn)
        have d3 := hcp.cell (hP.hops k hkn)
        have d4 := hcp.frozen (k * 3)
        have d5 := hcp.frozen (k * 3 + 1)
        have d6 := hcp.frozen (k * 3 + 2)
        have hZ5 := (hZ4.path (k := k) (by omega) (by omega) hkn ⟨x1, x2, x3⟩).drew
        have hK5 := (((hKw4.setCell (b := B + 3) (o := k * 3) (.inr (by simp)) (.int .i64 (x1 : Int))).setCell (b := B + 3) (o := k * 3 + 1) (.inr (by simp)) (.int .i64 (x2 : Int))).setCell (b := B + 3) (o := k * 3 + 2) (.inr (by simp)) (.int .i64 (x3 : Int))).drew
        have hK45 : Kp (wc.heap.size) [B + 3] wc ((((wc.setCell ⟨B + 3, k * 3, none⟩ (.int .i64 (x1 : Int))).setCell ⟨B + 3, k * 3 + 1, none⟩ (.int .i64 (x2 : Int))).setCell ⟨B + 3, k * 3 + 2, none⟩ (.int .i64 (x3 : Int)))).drew := ((((Kp.refl _ _ _).setCell (.inr (by simp)) _).setCell (.inr (by simp)) _).setCell (.inr (by simp)) _).drew
        have HX : Hid (vi[k]? = some x1 ∧ pr[k]? = some x2 ∧ ho[k]? = some x3) := ⟨hx1, hx2, hx3⟩
        clear hcp hP hx1 hx2 hx3 hZ4
        go_wp2_with fail
        go_region
        go_upto_region 18 with fail
        generalize ((((wc.setCell ⟨B + 3, k * 3, none⟩ (Value.int .i64 (x1 : Int))).setCell ⟨B + 3, k * 3 + 1, none⟩ (Value.int .i64 (x2 : Int))).setCell ⟨B + 3, k * 3 + 2, none⟩ (Value.int .i64 (x3 : Int)))).drew = wy at *
        clear a1 a2 a3 s3 d1 d2 d3 d4 d5 d6
        have HFIN : Hid (∀ wz num nc, ZAt wz (B + 2) (B + 3) B n (upd (pre k (fun k => names[k]?.getD ⟨#[]⟩) ⟨#[]⟩) k nm) (upd (pre k (fun k => .map (lkf k)) (.map none)) k (.map lo)) (upd (pre k (fun k => jval (jf k) (J k).length) (.slice none 0 0)) k (.slice ao ln cp)) (upd (pre k (fun k => ls[k]?.getD 0) 0) k l) (upd (pre k (fun k => ⟨vi[k]?.getD 0, pr[k]?.getD 0, ho[k]?.getD 0⟩) pt0) k ⟨x1, x2, x3⟩) nc num → nc = PL.ncOf nuf (k + 1) → num = PL.numOf names nuf (k + 1) → Kp W0 [B + 2, B + 3, B] wr wz → Kp wc.heap.size [B + 3, B] wc wz →
            ∃ (k' : Nat) (lkf : Nat → Option Nat), n - (k + 1) = n - k' ∧ k' ≤ n ∧ Value.int .i64 ((k : Int) + 1) = .int .i64 k' ∧ ZAt wz (B + 2) (B + 3) B n (pre k' (fun k => names[k]?.getD ⟨#[]⟩) ⟨#[]⟩) (pre k' (fun k => .map (lkf k)) (.map none)) (pre k' (fun k => jval (jf k) (J k).length) (.slice none 0 0)) (pre k' (fun k => ls[k]?.getD 0) 0) (pre k' (fun k => ⟨vi[k]?.getD 0, pr[k]?.getD 0, ho[k]?.getD 0⟩) pt0) (PL.ncOf nuf k') (PL.numOf names nuf k') ∧
    (∀ i, i < k' → lkf i = none → (PL.tg S.T i).length = 0) ∧ (∀ i g, i < k' → lkf i = some g → B + 4 ≤ g ∧ MapAt kN wz 3 g (PL.tg S.T i).length (fun t => if S.ct (i, t) = 0 then none else some (S.ct (i, t) : Int))) ∧ Kp (B + 4) [B + 2, B + 3, B] w1 wz) := by
          intro wz num nc hZ e1 e2 hk1 hk2
          refine ⟨k + 1, upd lkf k lo, rfl, by omega, by simp, ?_, fun i hi hn => ?_, fun i g hi hg => ?_, HTO.out _ hk1⟩
          · rw [pre_upd' k (fun k => names[k]?.getD ⟨#[]⟩) ⟨#[]⟩ nm (by rw [HNM.out, Option.getD_some]), pre_lk, pre_upd' k (fun k => jval (jf k) (J k).length) (.slice none 0 0) (.slice ao ln cp) HJV.out.symm, pre_upd' k (fun k => ls[k]?.getD 0) 0 l (by rw [HLS.out, Option.getD_some]), pre_upd' k (fun k => (⟨vi[k]?.getD 0, pr[k]?.getD 0, ho[k]?.getD 0⟩ : PT)) pt0 ⟨x1, x2, x3⟩ (by rw [HX.out.1, HX.out.2.1, HX.out.2.2]; rfl), e1, e2] at hZ
            exact hZ
          · by_cases e : i = k
            · subst e
              rw [upd_same] at hn
              rw [HTK.out]; exact HLO0.out hn
            · rw [upd_other _ _ _ _ e] at hn
              exact HL0.out i (by omega) hn
          · by_cases e : i = k
            · subst e
              rw [upd_same] at hg
              obtain ⟨h1, h2⟩ := HLO1.out g hg
              refine ⟨by omega, ?_⟩
              rw [HTK.out]
              exact h2.kp hk2 h2.lt (by simp; omega)
            · rw [upd_other _ _ _ _ e] at hg
              obtain ⟨h1, h2⟩ := HL1.out i g (by omega) hg
              have h3 := h2.lt
              rw [HW0.out] at h3
              exact ⟨h1, h2.kp hk1 h3 (by simp; omega)⟩
        have u1 := (HI.out.nur.kp (HTW.out _ hK5) (by rw [← HB.out]; exact HI.out.nur.lt) (by simp)).cell (bools_at hnv)
        have hnvf : nuf k = nv := by rw [← HNUF.out]; simp [hnv]
        clear hnv
        cases nv with
        | false =>
          have HR := HFIN.out wy _ _ hZ5 (by rw [PL.ncOf_succ, hnvf]; simp) (by simp [PL.numOf, hnvf]) hK5 (hK45.mono (Nat.le_refl _) (fun q _ h => by simp at h; simp [h]))
          have HR' : Hid _ := HR
          clear HR hZ5 hK5 hK45 hnvf HFIN HL0 HL1 HLO0 HLO1 HTO HTW HKr HX HNM HLS HJV HOWN HOWNL HTVK hKw4 hK3
          go_wp2
          go_roundg (n - (k + 1))
          case measure => omega
          case rel => exact HR'.out
        | true =>
          have n1 := (HI.out.nms.kp (HTW.out _ hK5) (by rw [← HB.out]; exact HI.out.nms.lt) (by simp)).cell (strs_at HNM.out)
          have s1 := (HST.out.kp (HTO.out _ hK5) (by omega) (by simp)).cell (i := 1) rfl
          have hZ6 := hZ5.drew
          have hs := HSZ.out k
          rw [HNM.out, Option.getD_some] at hs
          obtain ⟨lk, hlk⟩ := key9 hs
          have hcl := PL.ncOf_le nuf k
          obtain ⟨w', hrun, hg', hM'⟩ := hZ6.num.store (t := 72) kS_inj keyed9 Try.underlying72 (by omega) hlk (k : Int) (wf_small (by omega) (by omega))
          have hnone : PL.numOf names nuf k nm = none := by
            have := PL.numOf_at HA.out nuf k k hkn hk
            rw [HNM.out, Option.getD_some, if_neg (by simp)] at this
            exact this
          rw [hnone] at hM'
          have hZ7 : ZAt w' (B + 2) (B + 3) B n _ _ _ _ _ _ _ := ⟨by
            obtain ⟨cs, h1, h2⟩ := hZ6.nodes
            exact ⟨cs, h1.kept hg' (by simp), h2⟩, by
            obtain ⟨cs, h1, h2⟩ := hZ6.paths
            exact ⟨cs, h1.kept hg' (by simp), h2⟩, hM'⟩
          have hszy : wc.heap.size ≤ wy.heap.size := hK45.size
          have HR := HFIN.out w' _ _ hZ7 (by rw [PL.ncOf_succ, hnvf]; simp) (by funext u; simp [PL.numOf, hnvf, HNM.out]) (hK5.trans ((Kp.refl _ _ _).grown (grown_of_drew hg') (by omega) (fun q hq => .inr (by cases hq; simp)))) ((hK45.mono (Nat.le_refl _) (fun q _ h => by simp at h; simp [h])).trans ((Kp.refl _ _ _).grown (grown_of_drew hg') (by omega) (fun q hq => .inr (by cases hq; simp))))
          have HR' : Hid _ := HR
          unfold kS at hrun
          clear HR hZ5 hZ6 hZ7 hM' hg' hlk hnone hK5 hK45 hnvf hs HFIN HL0 HL1 HLO0 HLO1 HTO HTW HKr HX HNM HLS HJV HOWN HOWNL HTVK hKw4 hK3
          go_wp2_with fail
          go_region
          all_goals
            go_wp2
            go_roundg (n - (k + 1))
            case measure => omega
            case rel => exact HR'.out
    · have e : n = k := by omega
      subst e
      have hst := HST.out.kp hK (by omega) (by simp)
      have hsz : B + 4 ≤ wr.heap.size := by rw [← HSZ1.out]; exact hK.size
      have hKf : Kp B [] w wr := HK1.out.trans (hK.mono (by omega) (fun q h1 h2 => by simp at h2; omega))
      obtain ⟨cs, hcs, hN⟩ := hZ.nodes
      obtain ⟨cp, hcp, hP, hpl⟩ := hZ.paths
      have hpre : ∀ {α : Type} (f : Nat → α) (z : α) (i : Nat), i < n → pre n f z i = f i := fun f z i hi => by simp [pre, hi]
      have HPS : Hid (PsAt wr (B + 1) n (pdNew n names S J ls vi pr ho nu r) ⟨B + 2, B, B + 3, n, lkf, jf, .slice none 0 0, .slice none 0 0⟩) := by
        refine ⟨hst, ⟨cs, hcs, ?_⟩, ⟨cp, hcp, ?_, hpl, Nat.le_refl _, by show n ≤ maxLen; unfold maxLen; omega⟩, ?_, fun i hi hn => ?_, fun i g hi hg => ?_, fun i hi hn => HI.out.jv0 i hi hn, fun i g hi hg => ?_⟩
        · exact ⟨hN.len, fun i hi => by rw [hN.nm i hi, hpre _ _ i hi]; rfl, fun i hi => by rw [hN.lk i hi, hpre _ _ i hi], fun i hi => by rw [hN.jv i hi, hpre _ _ i hi]; rfl, fun i hi => by rw [hN.ls i hi, hpre _ _ i hi]; rfl⟩
        · exact hP.congr (fun i hi => by rw [hpre _ _ i hi]; rfl)
        · have := hZ.num
          rw [← HNUF.out] at this
          exact this
        · have h0 := hL0 i hi hn
          refine ⟨h0, fun t => ?_⟩
          show S.ct (i, t) = 0
          have h1 : t ∉ PL.tg S.T i := by rw [List.eq_nil_of_length_eq_zero h0]; simp
          have h2 : ¬ 0 < S.ct (i, t) := fun h => h1 ((HMI.out.mem i t).2 h)
          omega
        · exact (hL1 i g hi hg).2
        · exact (HI.out.jv1 i g hi hg).kp hKf (by rw [← HB.out]; exact (HI.out.jv1 i g hi hg).lt) (by simp)
      have HFR : Hid (∀ k g, k < n → lkf k = some g → B + 4 ≤ g) := fun i g hi hg => (hL1 i g hi hg).1
      clear hZ hL0 hL1 hst hcs hN hcp hP hpl hmm hmk71 hmk73
      go_wp2
      go_ret
      refine ⟨B + 1, ⟨B + 2, B, B + 3, n, lkf, jf, .slice none 0 0, .slice none 0 0⟩, rfl, HPS.out, by rw [HB.out]; exact hKf, rfl, rfl, rfl, rfl, ?_⟩
      rw [HB.out]
      refine ⟨by omega, by show B ≤ B + 2; omega, Nat.le_refl _, by show B ≤ B + 3; omega, by show B + 1 ≠ B + 2; omega, by show B + 1 ≠ B; omega, by show B + 1 ≠ B + 3; omega, by show B + 2 ≠ B + 3; omega, fun k g hk hg => ?_⟩
      have := HFR.out k g hk hg
      exact ⟨by omega, by omega, by show g ≠ B + 2; omega, by show g ≠ B + 3; omega, by show g ≠ B; omega⟩
end Go.Proofs.Qxb6600010a
