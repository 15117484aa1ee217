/-
  WHAT relinked IS CALLED UNDER.
-/
import Derived.Test.Qxb6600010aRlP
namespace Go.Proofs.Qxb6600010a
open Go.RowKit
set_option linter.unusedVariables false
set_option linter.unusedSimpArgs false
theorem rlIn_of {n c : Nat} {names : List ByteArray} {m : PL.PM} {b : PB} {B p : Nat} (hm : PL.PMesh names n m) (old : List Int) (hc : c < n) (hsz : ∀ k : Nat, (names[k]?.getD ⟨#[]⟩).size ≤ maxLen) (hf : PFr B p n b) (pb pc : Nat) (nx qu : Value) : RlIn n (PL.hc m.S.T m.ls n) c (pdW n names m old (c : Int)) { b with pb := pb, pc := pc, nx := nx, qu := qu } (fun k => PL.tg m.S.T k) := by
  have hn1 := hm.n1
  refine ⟨hc, ?_, fun j g hj hg => (hf.lk j g hj hg).2.2.2.2, fun h => ?_, cpIn_of (B := 0) (p := 0) hm (good_rl hm old hc) hsz (fun i j g hi hj h1 h2 => hf.ji i j g hi hj h1 h2)⟩
  · have h : (pdW n names m old (c : Int)).rel = PL.relC m (c : Int) n := rfl
    have h2 := PL.relC_le m (c : Int) n
    omega
  · have h2 := pd_num hm old (c : Int) c hc
    rw [numB_c] at h2
    simp only [decide_true, Bool.or_true, if_true] at h2
    have h3 : (pdW n names m old (c : Int)).num ((pdW n names m old (c : Int)).nm c) = some (c : Int) := h2
    rw [h3]; rfl
/-- The blocks that relinked writes to lie in one stretch. -/
theorem s_in {w : World} {B p n : Nat} {b : PB} {d : PD} (hP : PsAt w p n d b) (hf : PFr B p n b) : ∀ x, x ∈ p :: b.mb :: tab n (fun k => (b.jb k).getD p) → B ≤ x ∧ x < w.heap.size := by
  intro x hx
  unfold tab at hx
  simp only [List.mem_cons, List.mem_map, List.mem_range] at hx
  rcases hx with rfl | rfl | ⟨k, hk, rfl⟩
  · exact ⟨hf.pp, hP.st.lt⟩
  · exact ⟨hf.mb, hP.num.lt⟩
  · cases hb : b.jb k with
    | none => exact ⟨hf.pp, hP.st.lt⟩
    | some g => exact ⟨(hf.jb k g hk hb).1, (hP.jn1 k g hk hb).lt⟩
theorem kp_out {a w' : World} {B B' : Nat} {S : List Nat} (h : Kp B' S a w') (hB : B ≤ B') (hS : ∀ x, x ∈ S → B ≤ x) : Kp B [] a w' := h.mono hB (fun k hk hm => by have := hS k hm; omega)
end Go.Proofs.Qxb6600010a
