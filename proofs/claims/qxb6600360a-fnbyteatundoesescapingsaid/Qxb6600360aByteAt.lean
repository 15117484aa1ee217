/-
  THE WALK of (*unescapedAddress).byteAt.
-/
import Derived.Test.Qxb6600360aState
import Derived.WalkKit
import Derived.WalkSpells
import Derived.WalkLawsBesides
import Derived.Deep.LoopGhost
import Derived.Deep.DeepCutAuto
import Derived.Deep.RegionLaw
import Derived.Deep.AppendLies
import Derived.Deep.QuietTactic
import Derived.Deep.DrawnRows
import Derived.BigQuiet
namespace Go.Proofs.Qxb6600360a
open Go.RowKit
set_option linter.unusedSimpArgs false
set_option linter.unusedVariables false

theorem Try.info5 : (Try.prog.info? 5).map (fun i => (i.zero, i.size, i.bytes)) = some (some (.int .u8 0), 1, 1) := by kernel_rfl
theorem Try.info3 : (Try.prog.info? 3).map (fun i => (i.zero, i.size, i.bytes)) = some (some (.int .i64 0), 1, 8) := by kernel_rfl

theorem one_at {w : World} {v : Value} {g : Nat} (h : w.cell? ⟨g, 0, none⟩ = some v) : ∀ (j : Nat) (u : Value), [v][j]? = some u → w.cell? ((⟨g, 0, none⟩ : Addr).add j) = some u := by
  intro j u hj
  match j, hj with
  | 0, hj => simp at hj; subst hj; simpa [Addr.add] using h

def Done (B : Nat) (t : ByteArray) (f n k : Nat) (w : World) (e : Ending) (w' : World) : Prop :=
  ∃ n' vb ve, n ≤ n' ∧ Mid B t f n' n' w' vb ve ∧ Below B w w' ∧
    ((k < n' ∧ e = .returned (.tuple #[vB (PL.bt t.data.toList f k), .bool true])) ∨
     (n' ≤ k ∧ PL.ps t.data.toList f n' = t.size ∧ e = .returned (.tuple #[.int .u8 0, .bool false])))

set_option maxHeartbeats 1000000 in
set_option maxRecDepth 100000 in
theorem byteAt_any (B : Nat) (t : ByteArray) (f n k : Nat) (vb ve : Value) (w : World) (hs : t.size ≤ 4000000) (hf : f ≤ t.size) (h : Mid B t f n n w vb ve) :
    Calls Try.prog 18 #[.pointer (some ⟨B, 0, none⟩), .int .i64 k] w fun e w' => Done B t f n k w e w' := by
  obtain ⟨i5, hi5, hz50, hz51, hz52⟩ := info_parts Try.info5
  obtain ⟨i3, hi3, hz30, hz31, hz32⟩ := info_parts Try.info3
  go_enter Try.func18, Try.ntmps18
  go_wp2
  go_loopg [6] (k + 1 - n) (fun g i wr => ∃ m vb ve, n ≤ m ∧ g = k + 1 - m ∧ Mid B t f m m wr vb ve ∧ Below B w wr)
  case atStart => exact ⟨n, vb, ve, Nat.le_refl _, rfl, h, Below.refl _ _⟩
  case round =>
    clear h
    obtain ⟨m, vb, ve, hnm, rfl, hst, hbel⟩ := hrel
    have hlen : m ≤ t.size := by have := PL.can_le _ _ _ hst.can; simpa using this
    obtain ⟨ab, cb, rfl, hab⟩ := owns_form hst.ob
    obtain ⟨ae, ce, rfl, hae⟩ := owns_form hst.oe
    have c0 : wr.cell? ⟨B, 0, none⟩ = some (.string t) := by simp [World.cell?, hst.blk]
    have c1 : wr.cell? ⟨B, 1, none⟩ = some (.int .i64 f) := by simp [World.cell?, hst.blk]
    have c2 : wr.cell? ⟨B, 2, none⟩ = some (.slice ab m cb) := by simp [World.cell?, hst.blk]
    have c3 : wr.cell? ⟨B, 3, none⟩ = some (.slice ae m ce) := by simp [World.cell?, hst.blk]
    by_cases hkm : k < m
    · obtain ⟨g1, rfl, hb1, hl1, hc1⟩ := hab (by omega)
      have hcell := hc1 k (vB (PL.bt t.data.toList f k)) (by simp [PL.bytes, hkm])
      have hfin : Done B t f n k w (.returned (.tuple #[vB (PL.bt t.data.toList f k), .bool true])) wr := ⟨m, _, _, hnm, hst, hbel, .inl ⟨hkm, rfl⟩⟩
      unfold vB at hcell hfin
      have HF : Hid (Done B t f n k w (.returned (.tuple #[.int .u8 (PL.bt t.data.toList f k).toNat, .bool true])) wr) := hfin
      clear hc1 hae hst hfin
      go_wp2
      go_ret2
      exact HF.out
    · obtain ⟨p, hp⟩ : ∃ p, p = PL.ps t.data.toList f m := ⟨_, rfl⟩
      have hpl : p ≤ t.size := by have := PL.ps_le t.data.toList f (by simpa using hf) m hst.can; simp at this; omega
      have hmk : m ≤ k := by omega
      have HP : Hid (p = PL.ps t.data.toList f m) := hp
      clear hp
      go_upto_if 23 with fail
      go_cut [6] (fun i wc => i = .int .i64 p ∧ ∃ nq, wc = wr.drewN nq)
      case first =>
        by_cases hm0 : 0 < m
        · obtain ⟨g2, rfl, hb2, hl2, hc2⟩ := hae hm0
          have hcell : wr.cell? ⟨g2, m - 1, none⟩ = some (.int .i64 p) := by
            refine hc2 (m - 1) _ ?_
            have e : m - 1 + 1 = m := by omega
            have := PL.ends_at t.data.toList f m (m - 1) (by omega)
            rw [e, ← HP.out] at this
            simp [this, vI]
          clear hc2 hab hst
          go_wp2
          go_quiet (fail)
          go_wp2
          go_meet
          case rel => exact ⟨rfl, _, rfl⟩
        · have hm0' : m = 0 := by omega
          have HP' : p = f := by have := HP.out; rw [hm0'] at this; exact this
          clear hab hae hst
          subst HP'
          go_wp2
          go_meet
          case rel => exact ⟨rfl, 0, rfl⟩
      case rest =>
        obtain ⟨rfl, nq, rfl⟩ := hcut
        clear hab hae
        have hst2 := mid_drewN hst nq
        have hbel2 := below_drewN hbel nq
        clear hst hbel
        generalize hW : wr.drewN nq = W at *
        have d0 : W.cell? ⟨B, 0, none⟩ = some (.string t) := by rw [← hW]; exact c0
        have d2 : W.cell? ⟨B, 2, none⟩ = some (.slice ab m cb) := by rw [← hW]; exact c2
        have d3 : W.cell? ⟨B, 3, none⟩ = some (.slice ae m ce) := by rw [← hW]; exact c3
        clear hW c0 c1 c2 c3
        by_cases hpe : p = t.size
        · have hfin : Done B t f n k w (.returned (.tuple #[.int .u8 0, .bool false])) W := ⟨m, _, _, hnm, hst2, hbel2, .inr ⟨hmk, by rw [← HP.out]; exact hpe, rfl⟩⟩
          have HF : Hid (Done B t f n k w (.returned (.tuple #[.int .u8 0, .bool false])) W) := hfin
          clear hst2 hbel2 hfin
          have hb : ((p : Int) == (t.size : Int)) = true := by rw [beq_iff_eq]; omega
          clear hpe
          go_wp2
          go_ret2
          exact HF.out
        · have hplt : p < t.size := by omega
          have hb : ((p : Int) == (t.size : Int)) = false := by rw [beq_eq_false_iff_ne]; omega
          clear hpe
          obtain ⟨bb, hbb⟩ : ∃ bb : Bool, bb = decide (t[p] = 92 ∧ p + 1 < t.size) := ⟨_, rfl⟩
          have HBB : Hid (bb = decide (t[p] = 92 ∧ p + 1 < t.size)) := hbb
          clear hbb
          go_upto_region 7 with fail
          go_cut [59] (fun b wc => b = .bool bb ∧ W = wc)
          case first =>
            by_cases hc : t[p] = 92
            · have hcb : ((t[p].toNat : Int) == 92) = true := by rw [hc]; rfl
              by_cases hp1 : p + 1 < t.size
              · have e : bb = true := by rw [HBB.out]; simp [hc, hp1]
                subst e
                clear hc HBB
                go_wp2
                go_meet
                case rel => exact ⟨by simp; omega, rfl⟩
              · have e : bb = false := by rw [HBB.out]; simp [hp1]
                subst e
                clear hc HBB
                go_wp2
                go_meet
                case rel => exact ⟨by simp; omega, rfl⟩
            · have hcb : ((t[p].toNat : Int) == 92) = false := by
                rw [beq_eq_false_iff_ne]; intro e; apply hc; apply UInt8.toNat_inj.1; simp; omega
              have e : bb = false := by rw [HBB.out]; simp [hc]
              subst e
              clear hc HBB
              go_wp2
              go_meet
              case rel => exact ⟨rfl, rfl⟩
          case rest =>
            obtain ⟨rfl, rfl⟩ := hcut
            obtain ⟨q, hq⟩ : ∃ q, q = PL.nx t.data.toList p := ⟨_, rfl⟩
            have hql : q < t.size := by rw [hq]; have := PL.nx_lt t.data.toList p (by simpa using hplt); simpa using this
            have hqb : q = if bb then p + 1 else p := by
              rw [hq, HBB.out, PL.nx]
              have : t.data.toList[p]?.getD 0 = t[p] := by simp [hplt]; rfl
              rw [this]; simp
            have HQ : Hid (q = PL.nx t.data.toList p) := hq
            clear hq HBB
            go_upto_if 59 with fail
            go_cut [6] (fun i wc => i = .int .i64 q ∧ W = wc)
            case first =>
              cases bb
              · simp at hqb; subst hqb
                go_wp2
                go_meet
                case rel => exact ⟨rfl, rfl⟩
              · simp at hqb; subst hqb
                go_wp2
                go_meet
                case rel => exact ⟨by go_num, rfl⟩
            case rest =>
              obtain ⟨rfl, rfl⟩ := hcut
              clear hqb
              go_upto_region 9 with fail
              have hbt : vB (PL.bt t.data.toList f m) = .int .u8 t[q].toNat := by
                have e : PL.bt t.data.toList f m = t[q] := by
                  unfold PL.bt; rw [← HP.out, ← HQ.out]; simp [hql]; rfl
                rw [e]; rfl
              have HBT : Hid (vB (PL.bt t.data.toList f m) = .int .u8 t[q].toNat) := hbt
              clear hbt
              have hlt := hst2.lt
              have hnb : some B ≠ Value.ownBlock (.slice ab m cb) := fun e => by have := (owns_block hst2.ob B e.symm).1; omega
              have f2 : W.frozen? ⟨B, 2, none⟩ = false := by simp [World.frozen?, hst2.blk]
              go_cut [] (fun wc => ∃ g cap, Mid B t f (m + 1) m wc (.slice (some ⟨g, 0, none⟩) (m + 1) cap) (.slice ae m ce) ∧ Below B w wc)
              case first =>
                go_region_law (refine step_append_lies _ (by rfl) _ _ _ (by rfl) (B + 1) 5 i5 (.int .u8 0) 1 1 Try.underlying26 hi5 hz50 hz51 hz52 rfl (by decide) (.slice ab m cb) m _ (by simp [Act.eval, Act.put]) (by exact hst2.ob.alloc _) ⟨W.heap.size, 0, none⟩ 1 1 [.int .u8 t[q].toNat] (by simp [Act.eval, Act.put]) rfl (one_at (by simp)) (by simp [Value.oneCell']) (by omega) (by unfold maxLen; omega) (by omega) (by simp; omega) (W.heap.size + 1) (by simp) ?_; intro g cap w1 hown hgrow hat hlt1; have e2 := (hgrow.cell_far ⟨B, 2, none⟩ (by simp; omega) (by exact hnb)).trans ((World.cell?_alloc_lt _ _ _ hlt).trans d2); have f2 := (hgrow.frozen_far ⟨B, 2, none⟩ (by simp; omega) (by exact hnb)).trans ((World.frozen?_alloc_past _ _ _ hlt).trans f2))
                all_goals
                  have R := mid_bytes (w1 := (W.alloc (Obj.cells #[Value.int IntKind.u8 t[q].toNat] 5)).drew) hst2 (((Below.refl _ _).alloc (Nat.le_refl _) _).drew) hgrow (by rw [HBT.out]; exact hown)
                  clear hown hgrow hat hlt1 e2 f2 hst2
                  go_wp2
                  go_meet
                  case rel => exact ⟨g, cap, R.1, hbel2.trans R.2⟩
              case rest =>
                obtain ⟨g, cap, hmid, hbel3⟩ := hcut
                clear hst2 hbel2 d0 d2 d3 f2 hnb hlt
                have hlt := hmid.lt
                have hnb : some B ≠ Value.ownBlock (.slice ae m ce) := fun e => by have := (owns_block hmid.oe B e.symm).1; omega
                have k3 : wc.cell? ⟨B, 3, none⟩ = some (.slice ae m ce) := by simp [World.cell?, hmid.blk]
                have f3 : wc.frozen? ⟨B, 3, none⟩ = false := by simp [World.frozen?, hmid.blk]
                have hps : vI (PL.ps t.data.toList f (m + 1)) = .int .i64 ((q : Int) + 1) := by
                  unfold vI PL.ps; rw [← HP.out, ← HQ.out]; go_num
                have hcan : PL.Can t.data.toList f (m + 1) := PL.can_succ _ _ _ hmid.can (by rw [← HP.out]; simpa using hplt)
                have HPS : Hid (vI (PL.ps t.data.toList f (m + 1)) = .int .i64 ((q : Int) + 1)) := hps
                have HN : Hid (PL.Can t.data.toList f (m + 1)) := hcan
                clear hps hcan
                go_wp2_with (at_builtin; refine wpList_append_lies _ rfl _ _ 35 rfl (B + 1) 3 i3 (.int .i64 0) 1 8 Try.underlying35 hi3 hz30 hz31 hz32 rfl (by decide) (.slice ae m ce) m _ rfl (by exact hmid.oe.alloc _) ⟨wc.heap.size, 0, none⟩ 1 1 [.int .i64 ((q : Int) + 1)] rfl rfl (one_at (by simp)) (by simp [Value.oneCell']) (by omega) (by unfold maxLen; omega) (by omega) (by simp; omega) (wc.heap.size + 1) (by simp) ?_; intro g3 cap3 w1 hown hgrow hat hlt1; have e3 := (hgrow.cell_far ⟨B, 3, none⟩ (by simp; omega) (by exact hnb)).trans ((World.cell?_alloc_lt _ _ _ hlt).trans k3); have f4 := (hgrow.frozen_far ⟨B, 3, none⟩ (by simp; omega) (by exact hnb)).trans ((World.frozen?_alloc_past _ _ _ hlt).trans f3))
                have R := mid_ends (w1 := wc.alloc (Obj.cells #[Value.int .i64 ((q : Int) + 1)] 3)) hmid ((Below.refl _ _).alloc (Nat.le_refl _) _) HN.out hgrow (by rw [HPS.out]; exact hown)
                go_roundg (k + 1 - (m + 1))
                case measure => omega
                case rel => exact ⟨m + 1, _, _, by omega, rfl, R.1, hbel3.trans R.2⟩
end Go.Proofs.Qxb6600360a
