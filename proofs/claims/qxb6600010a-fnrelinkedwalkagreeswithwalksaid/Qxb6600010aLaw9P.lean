/-
  relinked WITH A WALK, AT A MESH STATE.
-/
import Derived.Test.Qxb6600010aLaw9L
namespace Go.Proofs.Qxb6600010a
open Go.RowKit
set_option linter.unusedVariables false
set_option linter.unusedSimpArgs false
theorem state_walk45 {w : World} {n : Nat} {names : List ByteArray} {m : PL.PM} {old : List Int} {keep : Int} {p : Nat} {b : PB} {B : Nat} (hm : PL.PMesh names n m) (h : PsAt w p n (pdState n names m old keep) b) (hf : PFr B p n b) :
    Calls Try.prog 45 #[.pointer (some ⟨p, 0, none⟩)] w fun e w' => WalkPost w p n (pdState n names m old keep) b e w' := by
  have hn := hm.n1
  refine walk_any w p n _ b (PL.rkf m) h (PL.gr_of hm) hm.n1 hf.p1 hf.p2 (fun k g hk hg => (hf.lk k g hk hg).2.1) (fun k g hk hg => (hf.jb k g hk hg).2.1) hf.nx hf.qu (fun k hk => PL.jlen hm k hk) (fun k hk => ?_)
  rw [pdState_P _ _ _ _ _ _ hk]
  have := PL.oldP_ok (m := m) old keep hm.n0 k
  exact ⟨this.1, by omega, by omega, by omega⟩
/-- The changes, as a list to be sorted. -/
def chD (n : Nat) (names : List ByteArray) (m : PL.PM) (old : List Int) (keep : Int) : List CH := (difs (pdState n names m old keep).P (PL.bfs n (fun k => PL.tg m.J k)) n).map (chOf (pdState n names m old keep).nm (pdState n names m old keep).P (PL.bfs n (fun k => PL.tg m.J k)))
theorem chD_len (n : Nat) (names : List ByteArray) (m : PL.PM) (old : List Int) (keep : Int) : (chD n names m old keep).length ≤ n := by
  unfold chD
  rw [List.length_map]
  exact difs_len _ _ _
theorem relink_walk {w : World} {n c : Nat} {names : List ByteArray} {m : PL.PM} {old : List Int} {p : Nat} {b : PB} {B B7 : Nat} (hm : PL.PMesh names n m) (h : PsAt w p n (pdState n names m old (c : Int)) b) (hf : PFr B p n b) (hS : ∀ x, x ∈ p :: b.mb :: tab n (fun k => (b.jb k).getD p) → B ≤ x ∧ x < B7) (hB7 : B7 ≤ w.heap.size) (hsz : ∀ k : Nat, (names[k]?.getD ⟨#[]⟩).size ≤ maxLen) (hc : c < n) :
    Calls Try.prog 40 #[.pointer (some ⟨p, 0, none⟩), .int .i64 (c : Int), .bool true] w fun e w' => ∃ v, e = .returned v ∧ ∃ C b', C.Perm (chD n names m old (c : Int)) ∧ C.Pairwise (fun x y => PL.nlt x.nm y.nm = true) ∧ w'.ownsRow w.heap.size 48 7 v C.length (chs C) ∧
      PsAt w' p (rlN n (PL.hc m.S.T m.ls n) c (pdW n names m old (c : Int))) (rlD n (PL.hc m.S.T m.ls n) c (pdW n names m old (c : Int))) b' ∧ Kp w.heap.size (p :: b.mb :: tab n (fun k => (b.jb k).getD p)) w w' := by
  refine zzrelinked_any w p c true (fun v w' => ∃ C b', C.Perm (chD n names m old (c : Int)) ∧ C.Pairwise (fun x y => PL.nlt x.nm y.nm = true) ∧ w'.ownsRow w.heap.size 48 7 v C.length (chs C) ∧
      PsAt w' p (rlN n (PL.hc m.S.T m.ls n) c (pdW n names m old (c : Int))) (rlD n (PL.hc m.S.T m.ls n) c (pdW n names m old (c : Int))) b' ∧ Kp w.heap.size (p :: b.mb :: tab n (fun k => (b.jb k).getD p)) w w') ?_
  refine (relinked_any w p n (PL.hc m.S.T m.ls n) c true (pdW n names m old (c : Int)) (fun k => PL.tg m.S.T k) (fun v w1 => ∃ (nx qu : Value) (pb pc : Nat) (C : List CH), PsAt w1 p n (pdW n names m old (c : Int)) { b with pb := pb, pc := pc, nx := nx, qu := qu } ∧ C.Perm (chD n names m old (c : Int)) ∧ C.Pairwise (fun x y => PL.nlt y.nm x.nm = false) ∧ w1.ownsRow w.heap.size 48 7 v C.length (chs C) ∧ Kp w.heap.size [p] w w1) (fun b' => b'.mb = b.mb ∧ b'.jb = b.jb) (fun _ => ?_) (fun h => by cases h) (fun v w1 hv => ?_)).mono ?_
  · refine (state_walk45 hm h hf).mono ?_
    rintro e w' ⟨v, nx, qu, pb, pc, C, rfl, h1, h2, h3, h4, h5, h6⟩
    exact ⟨v, rfl, nx, qu, pb, pc, C, h1, h3, h4, h5, h6⟩
  · obtain ⟨nx, qu, pb, pc, C, h1, _⟩ := hv
    exact ⟨_, h1, rlIn_of hm old hc hsz hf pb pc nx qu, rfl, rfl⟩
  · rintro e w' ⟨v, w1, b1, b2, rfl, ⟨nx, qu, pb, pc, C, h1, h2, h3, h4, h5⟩, _, hfb, h6, h7⟩
    rw [hfb.1, hfb.2] at h7
    refine ⟨v, rfl, C, b2, h2, chg_strict h2 (difs_pw (pd_apart hm old (c : Int))) h3, owns_kp h4 h7 (fun k hk => ?_), h6, (h5.mono (Nat.le_refl _) (by intro k _ hk; simp at hk; simp [hk])).trans (h7.mono h5.size (fun _ _ h => h))⟩
    obtain ⟨g1, g2, _⟩ := owns_block h4 k hk
    exact ⟨g2, fun hm' => by have := (hS k hm').2; omega⟩
end Go.Proofs.Qxb6600010a
