/-
  THE WALK of relinked, and the wrappers ZZCompact and ZZRelinked.
-/
import Derived.Test.Qxb6600010aCp
namespace Go.Proofs.Qxb6600010a
open Go.RowKit
set_option linter.unusedVariables false
set_option linter.unusedSimpArgs false
attribute [local go_sem ↓] Go.wp_at_zero Go.wp_at_succ
theorem zzcompact_any (w : World) (p n hn : Nat) (d : PD) (b : PB) (T : Nat → List Nat) (h : PsAt w p n d b) (hi : CpIn n hn d b T) :
    Calls Try.prog 25 #[.pointer (some ⟨p, 0, none⟩)] w fun e w' => e = .returned (.tuple #[]) ∧ ∃ b', PsAt w' p hn (pdC d n hn) b' ∧ Kp w.heap.size (p :: tab n (fun k => (b.jb k).getD p)) w w' := by
  have hc := compact_any w p n hn d b T h hi
  clear h hi
  go_enter Try.func25, Try.ntmps25
  go_wp2_with (first
    | (go_at_call 47; refine hc.mono ?_; rintro _ w5 ⟨rfl, hx⟩)
    | go_in)
  go_end0
  exact ⟨rfl, hx⟩
/-- Behind release. -/
def rl1 (d : PD) (c : Nat) : PD := if hB d c = true then d else pdRel d c
def rlD (n hn c : Nat) (d : PD) : PD := if n < 2 * (rl1 d c).rel then pdC (rl1 d c) n hn else rl1 d c
def rlN (n hn c : Nat) (d : PD) : Nat := if n < 2 * (rl1 d c).rel then hn else n
structure RlIn (n hn c : Nat) (d : PD) (b : PB) (T : Nat → List Nat) : Prop where
  cn : c < n
  rel : d.rel ≤ 65536
  lm : ∀ j g, j < n → b.lk j = some g → g ≠ b.mb
  hin : hB d c = false → (d.num (d.nm c)).isSome = true
  cp : CpIn n hn (rl1 d c) b T
theorem rl1_nm (d : PD) (c : Nat) : (rl1 d c).nm = d.nm := by unfold rl1; split <;> rfl
theorem rl1_rel (d : PD) (c : Nat) : (rl1 d c).rel ≤ d.rel + 1 := by unfold rl1; split <;> simp [pdRel]
set_option maxHeartbeats 20000000 in
set_option maxRecDepth 1000000 in
theorem relinked_any (w : World) (p n hn c : Nat) (wk : Bool) (d : PD) (T : Nat → List Nat) (R1 : Value → World → Prop) (FR : PB → Prop)
    (hwk : wk = true → Calls Try.prog 45 #[.pointer (some ⟨p, 0, none⟩)] w fun e w' => ∃ v, e = .returned v ∧ R1 v w') (hno : wk = false → R1 (.slice none 0 0) w)
    (hR : ∀ v w1, R1 v w1 → ∃ b, PsAt w1 p n d b ∧ RlIn n hn c d b T ∧ FR b) :
    Calls Try.prog 48 #[.pointer (some ⟨p, 0, none⟩), .int .i64 (c : Int), .bool wk] w fun e w' => ∃ v w1 b b', e = .returned v ∧ R1 v w1 ∧ PsAt w1 p n d b ∧ FR b ∧ PsAt w' p (rlN n hn c d) (rlD n hn c d) b' ∧ Kp w1.heap.size (p :: b.mb :: tab n (fun k => (b.jb k).getD p)) w1 w' := by
  have HR := hid_mk hR
  have HWK := hid_mk hwk
  have HNO := hid_mk hno
  clear hR hwk hno
  go_enter Try.func48, Try.ntmps48
  go_upto_if 8 with fail
  go_cut [7] (fun v wc => R1 v wc)
  case first =>
    cases wk with
    | true =>
      have hc := HWK.out rfl
      go_wp2_with (first
        | (go_at_call 45; refine hc.mono ?_; rintro _ w5 ⟨v, rfl, hx⟩)
        | go_in)
      go_meet
      case rel => exact hx
    | false =>
      have hc := HNO.out rfl
      go_wp2
      go_meet
      case rel => exact hc
  case rest =>
    obtain ⟨b, hP, hI, hF⟩ := HR.out u7 wc hcut
    have hn1 := hI.cp.n1
    have hcn := hI.cn
    have hc := release_any wc p n c d b hP hI.cn hI.cp.n1 hI.rel hI.lm (by have := hI.cp.sz c; rwa [rl1_nm] at this) hI.hin
    have HC := hid_mk hcut
    have HP := hid_mk hP
    have HI := hid_mk hI
    have HF := hid_mk hF
    clear hcut hP hI hF
    go_wp2_with (first
      | (go_at_call 55; refine hc.mono ?_; rintro _ w5 ⟨rfl, hP5, hK5⟩)
      | fail)
    have hP5' : PsAt w5 p n (rl1 d c) b := hP5
    have hst := hP5'.st
    unfold slc at hst
    have s0 := hst.cell (i := 0) rfl
    have s2 := hst.cell (i := 2) rfl
    have hrl := HI.out.rel
    have hrl1 := rl1_rel d c
    have HD : Hid (rlD n hn c d = if n < 2 * (rl1 d c).rel then pdC (rl1 d c) n hn else rl1 d c) := rfl
    have HN : Hid (rlN n hn c d = if n < 2 * (rl1 d c).rel then hn else n) := rfl
    obtain ⟨rr, hrr⟩ : ∃ rr, (rl1 d c).rel = rr := ⟨_, rfl⟩
    have HRR := hid_mk hrr
    rw [hrr] at s2 hrl1 HD HN
    have HP5 := hid_mk hP5'
    have HK5 := hid_mk hK5
    clear hP5 hP5' hK5 hst hrr hc
    go_quiet (fail)
    have hP6 : PsAt (w5.drewN nq) p n (rl1 d c) b := HP5.out.kp ((Kp.refl _ _ _).drewN nq)
    have hK6 : Kp wc.heap.size [p, b.mb] wc (w5.drewN nq) := HK5.out.drewN nq
    generalize w5.drewN nq = w6 at *
    clear s0 s2
    have HP6 := hid_mk hP6
    have HK6 := hid_mk hK6
    clear hP6 hK6
    go_upto_if 24 with fail
    go_cut [] (fun wz => ∃ b', PsAt wz p (rlN n hn c d) (rlD n hn c d) b' ∧ Kp wc.heap.size (p :: b.mb :: tab n (fun k => (b.jb k).getD p)) wc wz)
    case first =>
      by_cases hg : n < 2 * rr
      · have hgt : ((n : Int) < 2 * (rr : Int)) := by omega
        have hc := compact_any w6 p n hn (rl1 d c) b T HP6.out HI.out.cp
        go_wp2_with (first
          | (go_at_call 47; refine hc.mono ?_; rintro _ w7 ⟨rfl, b', hP7, hK7⟩)
          | go_in)
        go_meet
        case rel =>
          rw [HD.out, HN.out, if_pos hg, if_pos hg]
          exact ⟨b', hP7, (HK6.out.mono (Nat.le_refl _) (by intro k _ hk; simp at hk; rcases hk with rfl | rfl <;> simp)).trans (hK7.mono HK6.out.size (by intro k _ hk; simp at hk; rcases hk with rfl | h <;> simp [*]))⟩
      · have hgt : ¬ ((n : Int) < 2 * (rr : Int)) := by omega
        go_wp2
        go_meet
        case rel =>
          rw [HD.out, HN.out, if_neg hg, if_neg hg]
          exact ⟨b, HP6.out, HK6.out.mono (Nat.le_refl _) (by intro k _ hk; simp at hk; rcases hk with rfl | rfl <;> simp)⟩
    case rest =>
      obtain ⟨b', hP7, hK7⟩ := hcut
      go_wp2
      go_ret
      exact ⟨u7, _, b, b', rfl, HC.out, HP.out, HF.out, hP7, hK7⟩
theorem zzrelinked_any (w : World) (p c : Nat) (wk : Bool) (Q : Value → World → Prop) (h : Calls Try.prog 48 #[.pointer (some ⟨p, 0, none⟩), .int .i64 (c : Int), .bool wk] w fun e w' => ∃ v, e = .returned v ∧ Q v w') :
    Calls Try.prog 40 #[.pointer (some ⟨p, 0, none⟩), .int .i64 (c : Int), .bool wk] w fun e w' => ∃ v, e = .returned v ∧ Q v w' := by
  go_enter Try.func40, Try.ntmps40
  go_wp2_with fail
  refine h.mono ?_
  rintro e w' hp
  obtain ⟨v, rfl, hr⟩ := hp
  have HR := hid_mk hr
  clear hr h
  go_wp2
  go_ret
  exact ⟨v, rfl, HR.out⟩
end Go.Proofs.Qxb6600010a
