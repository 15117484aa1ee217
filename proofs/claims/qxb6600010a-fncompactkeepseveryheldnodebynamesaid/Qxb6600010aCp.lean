/-
  THE WALK of compact.
-/
import Derived.Test.Qxb6600010aCp2
import Derived.Test.Qxb6600010aCp4
import Derived.BigQuiet
namespace Go.Proofs.Qxb6600010a
open Go.RowKit
set_option linter.unusedVariables false
set_option linter.unusedSimpArgs false
attribute [local go_sem ↓] Go.wp_at_zero Go.wp_at_succ
theorem run_make_room {P : Program} (t e : TypeId) (z : Value) (size bytes : Nat) (ht : P.underlying t = some (.slice e)) (hinfo : (P.info? e).map (fun i => (i.zero, i.size, i.bytes)) = some (some z, size, bytes))
    (kl kc : IntKind) (n : Nat) (hbytes : bytes * n ≤ 281474976710656) (h63 : n ≤ 9223372036854775807) (w : World) :
    (Instr.makeSlice t (.int kl 0) (.int kc (n : Int))).run P w = .ok (.slice (some ⟨w.heap.size, 0, none⟩) 0 n) (w.alloc (.cells (madeCells z.cells (n * size)) e)) := by
  obtain ⟨i, hi, hzz⟩ := Option.map_eq_some_iff.1 hinfo
  simp only [Prod.mk.injEq] at hzz
  obtain ⟨hz, hs, hb⟩ := hzz
  have hb' : (i.bytes : Int) * (n : Int) ≤ 281474976710656 := by
    have h : ((i.bytes * n : Nat) : Int) ≤ 281474976710656 := by rw [hb]; omega
    rwa [Int.natCast_mul] at h
  have hr := run_make (P := P) w t e i z ht hi hz kl kc 0 n (by omega) (by omega) hb' (by omega)
  simp only [Int.toNat_natCast, Int.toNat_zero, hs] at hr
  exact hr
/-- What compact makes of a Paths. -/
def pdC (d : PD) (n hn : Nat) : PD where
  nm := fun j => d.nm (PL.hidx (hB d) n j)
  L := fun j y => if y < hn then d.L (PL.hidx (hB d) n j) (PL.hidx (hB d) n y) else 0
  lc := fun j => d.lc (PL.hidx (hB d) n j)
  J := fun j => (d.J (PL.hidx (hB d) n j)).map (PL.rnF (hB d))
  ls := fun j => d.ls (PL.hidx (hB d) n j)
  P := fun j => ⟨PL.rnF (hB d) (d.P (PL.hidx (hB d) n j)).via, PL.rnF (hB d) (d.P (PL.hidx (hB d) n j)).prev, (d.P (PL.hidx (hB d) n j)).hops⟩
  num := PL.numC (hB d) d.nm n
  nc := hn
  rel := 0
/-- Under what compact is called. -/
structure CpIn (n hn : Nat) (d : PD) (b : PB) (T : Nat → List Nat) : Prop where
  n0 : 0 < n
  n1 : n ≤ 65536
  he : PL.ncOf (hB d) n = hn
  rel : d.rel + hn = n
  ap : ∀ i j, i < n → j < n → d.nm i = d.nm j → i = j
  sz : ∀ k, (d.nm k).size ≤ maxLen
  tt : ∀ k, k < n → (T k).Nodup ∧ (T k).length = d.lc k ∧ (∀ t, t ∈ T k ↔ d.L k t ≠ 0) ∧ ∀ t ∈ T k, t < n ∧ hB d t = true
  Lb : ∀ k t, d.L k t ≤ 65536
  Lc : ∀ k, k < n → d.lc k ≤ 65536
  J : ∀ k, k < n → (d.J k).length ≤ 65536 ∧ ∀ x ∈ d.J k, x < n
  P : ∀ k, k < n → (d.P k).via < n ∧ (d.P k).prev < n
  ji : ∀ i j g, i < n → j < n → b.jb i = some g → b.jb j = some g → i = j
theorem cp1_start {w w0 : World} {n hn rb nb pb mb B : Nat} {d : PD} {b : PB} (hr : Row w rb 3 (List.replicate n (.int .i64 0))) (hz : ZAt w nb pb mb hn (fun _ => ⟨#[]⟩) (fun _ => .map none) (fun _ => .slice none 0 0) (fun _ => 0) (fun _ => pt0) 0 (fun _ => none)) (hk : Kp B [] w0 w) : Cp1 w w0 n hn rb nb pb mb B d b 0 := by
  refine ⟨?_, ?_, hk⟩
  · rw [← tab_rep]
    have e : nats (List.replicate n 0) = List.replicate n (.int .i64 0) := by simp [nats]
    rw [e]; exact hr
  · have e : PL.ncOf (hB d) 0 = 0 := rfl
    rw [e, pre_zero, pre_zero, pre_zero, pre_zero, pre_zero]
    exact hz
def cpW (w : World) (hn : Nat) : World := ((w.alloc (.cells (madeCells #[.string ⟨#[]⟩, .map none, .slice none 0 0, .int .i64 0] (hn * 4)) 79)).alloc (.cells (madeCells #[.int .i64 0, .int .i64 0, .int .i64 0] (hn * 3)) 70)).alloc (.map #[] 0)
theorem cpW_facts {w w2 : World} {B n hn : Nat} {d : PD} {b : PB} (hr : Row w2 B 3 (List.replicate n (.int .i64 0))) (hs : w2.heap.size = B + 1) (hk : Kp B [] w w2) : Cp1 (cpW w2 hn) w n hn B (B + 1) (B + 2) (B + 3) B d b 0 ∧ (cpW w2 hn).heap.size = B + 4 := by
  unfold cpW
  refine ⟨cp1_start ?_ ⟨⟨_, ?_, nat_made hn⟩, ⟨_, ?_, pat_made hn, by simp [size_madeCells]⟩, ?_⟩ ?_, ?_⟩
  · exact ((hr.alloc _).alloc _).alloc _
  · have h := row_madeW w2 [.string ⟨#[]⟩, .map none, .slice none 0 0, .int .i64 0] (hn * 4) 79
    rw [hs] at h
    exact (h.alloc _).alloc _
  · have h := row_madeW (w2.alloc (.cells (madeCells #[.string ⟨#[]⟩, .map none, .slice none 0 0, .int .i64 0] (hn * 4)) 79)) [.int .i64 0, .int .i64 0, .int .i64 0] (hn * 3) 70
    rw [World.size_alloc, hs] at h
    exact h.alloc _
  · have h := map_made kS ((w2.alloc (.cells (madeCells #[.string ⟨#[]⟩, .map none, .slice none 0 0, .int .i64 0] (hn * 4)) 79)).alloc (.cells (madeCells #[.int .i64 0, .int .i64 0, .int .i64 0] (hn * 3)) 70)) 9
    rw [World.size_alloc, World.size_alloc, hs] at h
    exact h
  · exact ((hk.alloc (by omega) _).alloc (by rw [World.size_alloc]; omega) _).alloc (by rw [World.size_alloc, World.size_alloc]; omega) _
  · rw [World.size_alloc, World.size_alloc, World.size_alloc, hs]
theorem pre_in {α : Type} {k i : Nat} {f : Nat → α} {z : α} (h : i < k) : pre k f z i = f i := by unfold pre; rw [if_pos h]
theorem cp2_start {w w6 : World} {p n hn rb nb pb mb B : Nat} {d : PD} {b : PB} {T : Nat → List Nat} (hP : PsAt w p n d b) (hI : CpIn n hn d b T) (hB0 : w.heap.size = B) (hC : Cp1 w6 w n hn rb nb pb mb B d b n) (hrb : B ≤ rb) :
    Row w6 rb 3 (nats (tab n (PL.rnF (hB d)))) ∧ (∀ j g, j < hn → b.jb (PL.hidx (hB d) n j) = some g → g ≠ rb) ∧ (∀ i j g, i < hn → j < hn → b.jb (PL.hidx (hB d) n i) = some g → b.jb (PL.hidx (hB d) n j) = some g → i = j) ∧ (∀ j, j < hn → b.lk (PL.hidx (hB d) n j) = none → d.lc (PL.hidx (hB d) n j) = 0)
    ∧ (∀ j g, j < hn → b.lk (PL.hidx (hB d) n j) = some g → MapAt kN w6 3 g (d.lc (PL.hidx (hB d) n j)) (fun t => if d.L (PL.hidx (hB d) n j) t = 0 then none else some (d.L (PL.hidx (hB d) n j) t : Int)))
    ∧ (∀ j, j < hn → b.jb (PL.hidx (hB d) n j) = none → d.J (PL.hidx (hB d) n j) = []) ∧ (∀ j, j < hn → (d.J (PL.hidx (hB d) n j)).length ≤ 65536 ∧ ∀ x ∈ d.J (PL.hidx (hB d) n j), x < n)
    ∧ (∀ j, j < hn → (T (PL.hidx (hB d) n j)).Nodup ∧ (T (PL.hidx (hB d) n j)).length = d.lc (PL.hidx (hB d) n j) ∧ (∀ t, t ∈ T (PL.hidx (hB d) n j) ↔ d.L (PL.hidx (hB d) n j) t ≠ 0) ∧ ∀ t ∈ T (PL.hidx (hB d) n j), t < n ∧ PL.rnF (hB d) t < hn ∧ PL.hidx (hB d) n (PL.rnF (hB d) t) = t)
    ∧ (∀ y, y < hn → PL.rnF (hB d) (PL.hidx (hB d) n y) = y) ∧ (∀ j, j < hn → d.lc (PL.hidx (hB d) n j) ≤ 65536)
    ∧ Cp2 w6 w6 hn w6.heap.size nb (PL.rnF (hB d)) (PL.hidx (hB d) n) (fun j => d.nm (PL.hidx (hB d) n j)) (fun j => b.lk (PL.hidx (hB d) n j)) (fun j => b.jb (PL.hidx (hB d) n j)) (fun j => d.J (PL.hidx (hB d) n j)) (fun j => d.ls (PL.hidx (hB d) n j)) (fun j => d.lc (PL.hidx (hB d) n j)) (fun j t => d.L (PL.hidx (hB d) n j) t) 0 0 (fun _ => none) := by
  have hok : ∀ j, j < hn → PL.hidx (hB d) n j < n ∧ hB d (PL.hidx (hB d) n j) = true ∧ PL.ncOf (hB d) (PL.hidx (hB d) n j) = j := fun j hj => PL.hidx_ok (hB d) (by rw [hI.he]; exact hj)
  have hP6 := hP.kp (by rw [hB0]; exact hC.kp)
  have hrn : ∀ t, t < n → hB d t = true → PL.rnF (hB d) t < hn ∧ PL.hidx (hB d) n (PL.rnF (hB d) t) = t := fun t ht hh => by
    unfold PL.rnF
    rw [if_pos hh, ← hI.he]
    exact ⟨PL.ncOf_lt _ ht hh, PL.hidx_at _ ht hh⟩
  have hid : ∀ y, y < hn → PL.rnF (hB d) (PL.hidx (hB d) n y) = y := fun y hy => by
    unfold PL.rnF
    rw [if_pos (hok y hy).2.1]; exact (hok y hy).2.2
  refine ⟨?_, fun j g hj hg => ?_, fun i j g hi hj h1 h2 => ?_, fun j hj h1 => ?_, fun j g hj h1 => ?_, fun j hj h1 => ?_, fun j hj => hI.J _ (hok j hj).1, fun j hj => ?_, hid, fun j hj => hI.Lc _ (hok j hj).1, ?_⟩
  · have h := hC.r
    rw [tab_full] at h
    exact h
  · have := (hP.jn1 _ g (hok j hj).1 hg).lt
    rw [hB0] at this
    omega
  · have h3 := hI.ji _ _ g (hok i hi).1 (hok j hj).1 h1 h2
    rw [← hid i hi, h3, hid j hj]
  · exact (hP.lk0 _ (hok j hj).1 h1).1
  · exact hP6.lk1 _ g (hok j hj).1 h1
  · exact hP.jn0 _ (hok j hj).1 h1
  · obtain ⟨h1, h2, h3, h4⟩ := hI.tt _ (hok j hj).1
    exact ⟨h1, h2, h3, fun t ht => ⟨(h4 t ht).1, hrn t (h4 t ht).1 (h4 t ht).2⟩⟩
  · refine ⟨?_, fun j hj => by omega, fun j g hj => by omega, fun j g hj hg => ?_, Kp.refl _ _ _⟩
    · obtain ⟨cs, h1, h2⟩ := hC.z.nodes
      rw [hI.he] at h2
      refine ⟨cs, h1, h2.len, fun k hk => ?_, fun k hk => ?_, fun k hk => ?_, fun k hk => ?_⟩
      · have := h2.nm k hk; rwa [pre_in hk] at this
      · have := h2.lk k hk; rw [pre_in hk] at this; simpa using this
      · have := h2.jv k hk; rwa [pre_in hk] at this
      · have := h2.ls k hk; rwa [pre_in hk] at this
    · rw [if_neg (by omega)]
      exact hP6.jn1 _ g (hok j hj).1 hg
theorem cp_fin {w w6 w7 w8 : World} {p n hn rb nb pb mb B B6 : Nat} {d : PD} {b : PB} {T : Nat → List Nat} {lkN : Nat → Option Nat} (hP : PsAt w p n d b) (hI : CpIn n hn d b T) (hB0 : w.heap.size = B) (hC6 : Cp1 w6 w n hn rb nb pb mb B d b n) (hB6 : w6.heap.size = B6)
    (hC7 : Cp2 w7 w6 hn B6 nb (PL.rnF (hB d)) (PL.hidx (hB d) n) (fun j => d.nm (PL.hidx (hB d) n j)) (fun j => b.lk (PL.hidx (hB d) n j)) (fun j => b.jb (PL.hidx (hB d) n j)) (fun j => d.J (PL.hidx (hB d) n j)) (fun j => d.ls (PL.hidx (hB d) n j)) (fun j => d.lc (PL.hidx (hB d) n j)) (fun j t => d.L (PL.hidx (hB d) n j) t) hn hn lkN)
    (hp8 : ∃ cp, Row w8 pb 70 cp ∧ PAt cp hn (fun j => ⟨PL.rnF (hB d) (d.P (PL.hidx (hB d) n j)).via, PL.rnF (hB d) (d.P (PL.hidx (hB d) n j)).prev, (d.P (PL.hidx (hB d) n j)).hops⟩) ∧ cp.length = hn * 3) (hk8 : Kp w7.heap.size [pb] w7 w8)
    (h1 : B ≤ nb) (h2 : B ≤ pb) (h3 : B ≤ mb) (e1 : nb ≠ pb) (e2 : nb ≠ mb) (e3 : pb ≠ mb) :
    Row w8 p 75 [slc b.nb n, .map (some b.mb), .int .i64 (d.rel : Int), .slice (some ⟨b.pb, 0, none⟩) n b.pc, b.nx, b.qu] ∧
    ∀ w9, w8.grownBy w9 (some p) → Row w9 p 75 [.slice (some ⟨nb, 0, none⟩) hn hn, .map (some mb), .int .i64 0, .slice (some ⟨pb, 0, none⟩) hn hn, .slice none 0 0, .slice none 0 0] → (∃ b', PsAt w9 p hn (pdC d n hn) b') ∧ Kp w.heap.size (p :: tab n (fun k => (b.jb k).getD p)) w w9 := by
  have hok : ∀ j, j < hn → PL.hidx (hB d) n j < n ∧ hB d (PL.hidx (hB d) n j) = true ∧ PL.ncOf (hB d) (PL.hidx (hB d) n j) = j := fun j hj => PL.hidx_ok (hB d) (by rw [hI.he]; exact hj)
  have hP6 := hP.kp (by rw [hB0]; exact hC6.kp)
  have hpl := hP.st.lt
  rw [hB0] at hpl
  have hBB : B ≤ B6 := by rw [← hB6, ← hB0]; exact hC6.kp.size
  have hpl6 := hP6.st.lt
  rw [hB6] at hpl6
  have h67 : B6 ≤ w7.heap.size := by rw [← hB6]; exact hC7.kp.size
  have hjs : ∀ x, x ∈ nb :: tab hn (fun j => (b.jb (PL.hidx (hB d) n j)).getD nb) → x = nb ∨ ∃ j, j < n ∧ b.jb j = some x := by
    intro x hx
    rcases mem_sj.1 hx with e | ⟨j, hj, e⟩
    · exact .inl e
    · cases hb : b.jb (PL.hidx (hB d) n j) with
      | none => rw [hb] at e; exact .inl e.symm
      | some g => rw [hb] at e; exact .inr ⟨_, (hok j hj).1, by rw [hb]; simpa using e⟩
  have hS : ∀ x, B ≤ x → x ≠ nb → x ∉ nb :: tab hn (fun j => (b.jb (PL.hidx (hB d) n j)).getD nb) := by
    intro x hx hne hm
    rcases hjs x hm with e | ⟨j, hj, e⟩
    · exact hne e
    · have := (hP.jn1 j x hj e).lt
      omega
  have hpS : p ∉ nb :: tab hn (fun j => (b.jb (PL.hidx (hB d) n j)).getD nb) := by
    intro hm
    rcases hjs p hm with e | ⟨j, hj, e⟩
    · omega
    · exact ne_row (hP.jn1 j p hj e) hP.st (by decide) rfl
  have hrow8 := (hP6.st.kp hC7.kp hpl6 hpS).kp hk8 (by omega) (by simp; omega)
  refine ⟨hrow8, fun w9 hg hst => ?_⟩
  obtain ⟨cs, hcs, hN⟩ := hC7.nodes
  obtain ⟨cp, hcp, hPt, hcl⟩ := hp8
  have hnp : p ≠ nb := by omega
  have hpp : p ≠ pb := by omega
  have hmp : p ≠ mb := by omega
  have hnum := hC6.z.num
  rw [hI.he] at hnum
  have hnl := hnum.lt
  rw [hB6] at hnl
  have hnum9 := ((hnum.kp hC7.kp hnl (hS mb h3 e2.symm)).kp hk8 (by omega) (by simpa using e3.symm)).kept hg (by simpa using hmp.symm)
  refine ⟨⟨⟨nb, mb, pb, hn, lkN, fun j => b.jb (PL.hidx (hB d) n j), .slice none 0 0, .slice none 0 0⟩, ?_⟩, ?_⟩
  · refine ⟨hst, ⟨cs, (hcs.kp hk8 hcs.lt (by simpa using e1)).kept hg (by simpa using hnp.symm), hN.len, hN.nm, fun k hk => ?_, fun k hk => ?_, hN.ls⟩, ⟨cp, hcp.kept hg (by simpa using hpp.symm), hPt, hcl, Nat.le_refl _, by have := hI.n1; have := hI.rel; show hn ≤ maxLen; unfold maxLen; omega⟩, hnum9, fun k hk hl => ?_, fun k g hk hl => ?_, fun k hk hl => ?_, fun k g hk hl => ?_⟩
    · have := hN.lk k hk; simpa [hk] using this
    · have := hN.jv k hk
      show cs[k * 4 + 2]? = some (jval (b.jb (PL.hidx (hB d) n k)) ((d.J (PL.hidx (hB d) n k)).map (PL.rnF (hB d))).length)
      rw [List.length_map]; exact this
    · have h4 := hP.lk0 _ (hok k hk).1 (hC7.new0 k hk hl)
      refine ⟨h4.1, fun t => ?_⟩
      show (if t < hn then _ else 0) = 0
      by_cases ht : t < hn
      · rw [if_pos ht]; exact h4.2 _
      · rw [if_neg ht]
    · obtain ⟨h4, h5⟩ := hC7.new1 k g hk hl
      have hpb : pb < w6.heap.size := by
        obtain ⟨cp6, hcp6, _⟩ := hC6.z.paths
        exact hcp6.lt
      exact (h5.kp hk8 h5.lt (by simp; omega)).kept hg (by simp; omega)
    · have := hP.jn0 _ (hok k hk).1 hl
      show (d.J _).map _ = []
      rw [this]; rfl
    · have h4 := hC7.jn k g hk hl
      rw [if_pos hk] at h4
      have h5 := (hP.jn1 _ g (hok k hk).1 hl).lt
      refine (h4.kp hk8 h4.lt (by simp; omega)).kept hg ?_
      simp
      exact ne_row (hP.jn1 _ g (hok k hk).1 hl) hP.st (by decide)
  · rw [hB0]
    refine ((hC6.kp.mono (Nat.le_refl _) (by simp)).trans ((hC7.kp.mono hBB ?_).trans (hk8.mono (by omega) ?_))).grown hg (by have := hk8.size; omega) (fun k hk => .inr (by cases hk; simp))
    · intro k hk hm
      rcases hjs k hm with e | ⟨j, hj, e⟩
      · omega
      · unfold tab
        simp
        exact .inr ⟨j, hj, by rw [e]; rfl⟩
    · intro k hk hm
      simp at hm
      omega
set_option maxHeartbeats 20000000 in
set_option maxRecDepth 1000000 in
theorem compact_any (w : World) (p n hn : Nat) (d : PD) (b : PB) (T : Nat → List Nat) (h : PsAt w p n d b) (hi : CpIn n hn d b T) :
    Calls Try.prog 47 #[.pointer (some ⟨p, 0, none⟩)] w fun e w' => e = .returned (.tuple #[]) ∧ ∃ b', PsAt w' p hn (pdC d n hn) b' ∧ Kp w.heap.size (p :: tab n (fun k => (b.jb k).getD p)) w w' := by
  have hn0 := hi.n0
  have hn1 := hi.n1
  have hrel := hi.rel
  have hhn : hn ≤ n := by omega
  have hmkr := run_make_row' (P := Try.prog) 23 3 (.int .i64 0) 8 Try.underlying23 info3 rfl .i64 .i64 n (by omega) (by omega)
  have hmk71 := run_make_room (P := Try.prog) 71 79 _ 4 56 Try.underlying71 info79 .i64 .i64 hn (by omega) (by omega)
  have hmk73 := run_make_room (P := Try.prog) 73 70 _ 3 24 Try.underlying73 info70 .i64 .i64 hn (by omega) (by omega)
  have hmm := @run_makeMap_hint Try.prog 72 9 3 Try.underlying72 .i64 (hn : Int)
  obtain ⟨B, hB⟩ : ∃ B, w.heap.size = B := ⟨_, rfl⟩
  have HB : Hid (w.heap.size = B) := hB
  have HP := hid_mk h
  have HI := hid_mk hi
  have hpl : p < B := by rw [← hB]; exact h.st.lt
  have hst := h.st
  unfold slc at hst
  have s0 := hst.cell (i := 0) rfl
  have s2 := hst.cell (i := 2) rfl
  have s0a := (hst.alloc (.cells (madeCells #[.int .i64 0] n) 3)).cell (i := 0) rfl
  have s2a := (hst.alloc (.cells (madeCells #[.int .i64 0] n) 3)).cell (i := 2) rfl
  clear h hi hB hst
  go_enter Try.func47, Try.ntmps47
  go_upto_region 1 with fail
  have hR1 := row_made w (.int .i64 0) n 3
  have hK1 : Kp B [] w (w.alloc (.cells (madeCells #[.int .i64 0] n) 3)) := by rw [← HB.out]; exact (Kp.refl _ _ _).alloc (Nat.le_refl _) _
  have hs1 : (w.alloc (.cells (madeCells #[.int .i64 0] n) 3)).heap.size = B + 1 := by rw [World.size_alloc, HB.out]
  rw [HB.out] at hR1 ⊢
  generalize w.alloc (.cells (madeCells #[.int .i64 0] n) 3) = w1 at *
  obtain ⟨rl, hrl⟩ : ∃ rl, d.rel = rl := ⟨_, rfl⟩
  rw [hrl] at s2a hrel
  clear s0 s2 hmkr hrl
  have hsub : (n : Int) - (rl : Int) = (hn : Int) := by omega
  have HR1 := hid_mk hR1
  have HK1 := hid_mk hK1
  have HS1 := hid_mk hs1
  clear hR1 hK1 hs1
  go_quiet (fail)
  have hR2 := HR1.out.drewN nq
  have hK2 := HK1.out.drewN nq
  have hs2 : (w1.drewN nq).heap.size = B + 1 := HS1.out
  generalize w1.drewN nq = w2 at *
  obtain ⟨hC5, hs5⟩ := cpW_facts (hn := hn) (d := d) (b := b) hR2 hs2 hK2
  have s5 := (HP.out.st.kp hC5.kp (by rw [← HB.out]; exact HP.out.st.lt) (by simp)).cell (i := 0) rfl
  unfold slc at s5
  have HC5 := hid_mk hC5
  have HS5 := hid_mk hs5
  have HS2 := hid_mk hs2
  generalize hw5 : cpW w2 hn = w5 at *
  have HW5 := hid_mk hw5
  unfold cpW at hw5
  rw [← hw5] at s5
  clear hw5 hR2 hK2 hs2 hC5 hs5 s0a s2a hsub hrel HR1 HK1 HS1
  go_wp2_with fail
  have hw5 := HW5.out
  unfold cpW at hw5
  rw [hw5, HS2.out]
  clear hw5 s5 hmk71 hmk73 hmm HW5
  refine compact_loop1 w w5 p n hn B B (B + 1) (B + 1 + 1) (B + 1 + 1 + 1) d b hn0 hn1 HB HP HI.out.he HI.out.ap HI.out.sz (Nat.le_refl _) (by omega) (by omega) (by omega) (by omega) (by omega) (by omega) (by omega) (by omega) (by omega) HC5.out (fun u4 u5 u7 u8 u9 u10 u11 u12 u13 u14 u15 u16 u17 u18 u19 u20 u21 u22 u23 u24 u25 u26 u27 u28 u29 u30 u31 u32 u33 u34 u35 u36 u37 u38 u39 u40 u41 u42 u43 u44 u45 u46 u47 u48 u49 u50 u51 u52 u53 u54 u55 u56 u57 u58 u59 u60 u61 u62 u63 u64 u65 u66 u67 u68 u69 u70 u71 u72 u73 u74 u75 u76 u77 u78 u79 u80 u81 u82 u83 u84 u85 u86 u87 u88 u89 u90 u91 u92 u93 u94 u95 u96 u97 u98 u99 u100 u101 u102 u103 u104 u105 u106 u107 u108 u109 u110 u111 u112 u113 u114 u115 u116 u117 u118 u119 u120 u121 u122 u123 u124 u125 u126 u127 u128 u129 u130 u131 u132 u133 u134 u135 u136 u137 u138 u139 u140 u141 u142 u143 u144 u145 u146 u147 u148 u149 u150 u151 u152 u153 u154 u155 u156 u157 u158 u159 u160 u161 u162 w6 hc6 => ?_)
  obtain ⟨hC6, rfl, rfl⟩ := hc6
  have HC6 := hid_mk hC6
  clear hC6 HC5 HS5 HS2
  go_wp2_with fail
  obtain ⟨g1, g2, g3, g4, g5, g6, g7, g8, g9, g10, g11⟩ := cp2_start HP.out HI.out HB.out HC6.out (Nat.le_refl _)
  obtain ⟨B6, hB6⟩ : ∃ B6, w6.heap.size = B6 := ⟨_, rfl⟩
  rw [hB6] at g11
  have G1 := hid_mk g1
  refine compact_loop2 w6 n hn B6 B (B + 1) (PL.rnF (hB d)) (PL.hidx (hB d) n) (fun j => d.nm (PL.hidx (hB d) n j)) (fun j => b.lk (PL.hidx (hB d) n j)) (fun j => b.jb (PL.hidx (hB d) n j)) (fun j => d.J (PL.hidx (hB d) n j)) (fun j => d.ls (PL.hidx (hB d) n j)) (fun j => d.lc (PL.hidx (hB d) n j)) (fun j t => d.L (PL.hidx (hB d) n j) t) (fun j => T (PL.hidx (hB d) n j)) hn1 (by omega) hB6 g1 (by omega) g2 g3 g4 g5 g6 g7 g8 g9 (fun j t => HI.out.Lb _ t) g10 g11 (fun u7 u8 u9 u10 u11 u12 u13 u14 u15 u16 u17 u18 u19 u20 u21 u22 u23 u24 u25 u26 u27 u28 u29 u30 u31 u32 u33 u34 u35 u36 u37 u38 u39 u40 u41 u42 u43 u44 u45 u46 u47 u48 u49 u50 u51 u52 u53 u54 u55 u56 u57 u58 u59 u60 u61 u62 u63 u64 u65 u66 u67 u68 u69 u70 u71 u72 u73 u74 u75 u76 u77 u78 u79 u80 u81 u82 u83 u84 u85 u86 u87 u88 u89 u90 u91 u92 u93 u94 u95 u96 u97 u98 u99 u100 u101 u102 u103 u104 u105 u106 u107 u108 u109 u110 u111 u112 u113 u114 u115 u116 u117 u118 u119 u120 u121 u122 u123 u124 u125 u126 u127 u128 u129 u130 u131 u132 u133 u134 u135 u136 u137 u138 u139 u140 u141 u142 u143 u144 u145 u146 u147 u148 u149 u150 u151 u152 u153 u154 u155 u156 u157 u158 u159 u160 u161 u162 w7 hc7 => ?_)
  have HB6 := hid_mk hB6
  clear g1 g2 g3 g4 g5 g6 g7 g8 g9 g10 g11 hB6
  obtain ⟨lkN, hC7⟩ := hc7
  have HC7 := hid_mk hC7
  clear hC7
  go_wp2_with fail
  have hnS : ∀ x, B ≤ x → x ≠ B + 1 → x ∉ (B + 1) :: tab hn (fun j => (b.jb (PL.hidx (hB d) n j)).getD (B + 1)) := by
    intro x hx hne hm
    rcases mem_sj.1 hm with e | ⟨j, hj, e⟩
    · exact hne e
    · have hj' := (PL.hidx_ok (hB d) (n := n) (j := j) (by rw [HI.out.he]; exact hj)).1
      cases hb : b.jb (PL.hidx (hB d) n j) with
      | none => rw [hb] at e; exact hne e.symm
      | some g =>
        rw [hb] at e
        have h1 := (HP.out.jn1 _ g hj' hb).lt
        rw [HB.out] at h1
        simp at e
        omega
  have hr6 := G1.out.lt
  rw [HB6.out] at hr6
  have hrow7 := G1.out.kp HC7.out.kp hr6 (hnS B (Nat.le_refl _) (by omega))
  have hpa7 : ∃ cp, Row w7 (B + 1 + 1) 70 cp ∧ PAt cp hn (fun j => d.P (PL.hidx (hB d) n j)) ∧ cp.length = hn * 3 := by
    obtain ⟨cp, c1, c2, c3⟩ := HC6.out.z.paths
    have c4 := c1.lt
    rw [HB6.out] at c4
    refine ⟨cp, c1.kp HC7.out.kp c4 (hnS _ (by omega) (by omega)), c2.congr (fun k hk => ?_), c3⟩
    rw [HI.out.he, pre_in hk]
  obtain ⟨B7, hB7⟩ : ∃ B7, w7.heap.size = B7 := ⟨_, rfl⟩
  refine compact_loop4 w7 n hn B7 B (B + 1 + 1) (PL.rnF (hB d)) (fun j => d.P (PL.hidx (hB d) n j)) hn1 (by omega) hB7 hrow7 (by omega) (fun j hj => HI.out.P _ (PL.hidx_ok (hB d) (n := n) (j := j) (by rw [HI.out.he]; exact hj)).1) hpa7 (fun u7 u8 u9 u10 u11 u12 u13 u14 u15 u16 u17 u18 u19 u20 u21 u22 u23 u24 u25 u26 u27 u28 u29 u30 u31 u32 u33 u34 u35 u36 u37 u38 u39 u40 u41 u42 u43 u44 u45 u46 u47 u48 u49 u50 u51 u52 u53 u54 u55 u56 u57 u58 u59 u60 u61 u62 u63 u64 u65 u66 u67 u68 u69 u70 u71 u72 u73 u74 u75 u76 u77 u78 u79 u80 u81 u82 u83 u84 u85 u86 u87 u88 u89 u90 u91 u92 u93 u94 u95 u96 u97 u98 u99 u100 u101 u102 u103 u104 u105 u106 u107 u108 u109 u110 u111 u112 u113 u114 u115 u116 u117 u118 u119 u120 u121 u122 u123 u124 u125 u126 u127 u128 u129 u130 u131 u132 u133 u134 u135 u136 u137 u138 u139 u140 u141 u142 u143 u144 u145 u146 u147 u148 u149 u150 u151 u152 u153 u154 u155 u156 u157 u158 u159 u160 u161 u162 w8 hc8 => ?_)
  obtain ⟨hp8, hk8⟩ := hc8
  rw [← hB7] at hk8
  obtain ⟨hrow8, hfin⟩ := cp_fin HP.out HI.out HB.out HC6.out HB6.out HC7.out hp8 hk8 (by omega) (by omega) (by omega) (by omega) (by omega) (by omega)
  have HF := hid_mk hfin
  have HR8 := hid_mk hrow8
  clear hnS hr6 hrow7 hpa7 hB7 hp8 hk8 hfin G1 HC6 HC7 HB6
  unfold slc at hrow8
  have x0 := hrow8.cell (i := 0) rfl
  have x1 := hrow8.cell (i := 1) rfl
  have x2 := hrow8.cell (i := 2) rfl
  have x3 := hrow8.cell (i := 3) rfl
  have x4 := hrow8.cell (i := 4) rfl
  have x5 := hrow8.cell (i := 5) rfl
  have y0 := hrow8.frozen 0
  have y1 := hrow8.frozen 1
  have y2 := hrow8.frozen 2
  have y3 := hrow8.frozen 3
  have y4 := hrow8.frozen 4
  have y5 := hrow8.frozen 5
  clear hrow8
  generalize b.nx = nx at *
  generalize b.qu = qu at *
  generalize d.rel = rl2 at *
  go_wp2
  have hr9 := (((((HR8.out.set 0 (Value.slice (some ⟨B + 1, 0, none⟩) hn hn)).set 1 (Value.map (some (B + 1 + 1 + 1)))).set 3 (Value.slice (some ⟨B + 1 + 1, 0, none⟩) hn hn)).set 2 (Value.int IntKind.i64 0)).set 4 (Value.slice none 0 0)).set 5 (Value.slice none 0 0)
  have hg9 := (((((grown_set w8 p 0 (Value.slice (some ⟨B + 1, 0, none⟩) hn hn)).trans (grown_set _ p 1 (Value.map (some (B + 1 + 1 + 1))))).trans (grown_set _ p 3 (Value.slice (some ⟨B + 1 + 1, 0, none⟩) hn hn))).trans (grown_set _ p 2 (Value.int IntKind.i64 0))).trans (grown_set _ p 4 (Value.slice none 0 0))).trans (grown_set _ p 5 (Value.slice none 0 0))
  obtain ⟨⟨b', hb'⟩, hk'⟩ := HF.out _ hg9 hr9
  go_end0
  exact ⟨rfl, b', hb', hk'⟩
end Go.Proofs.Qxb6600010a
