/-
  held, renumber, release.
-/
import Derived.Test.Qxb6600010aRead2
import Derived.BigRegion
namespace Go.Proofs.Qxb6600010a
open Go.RowKit
set_option linter.unusedVariables false
set_option linter.unusedSimpArgs false
attribute [local go_sem ↓] Go.wp_at_zero Go.wp_at_succ
/-- Is node k held? -/
def hB (d : PD) (k : Nat) : Bool := decide (k = 0) || decide (0 < d.lc k) || decide (0 < d.ls k)
set_option maxHeartbeats 2000000 in
set_option maxRecDepth 100000 in
theorem held_any (w : World) (p n k : Nat) (d : PD) (b : PB) (h : PsAt w p n d b) (hk : k < n) (hn : n ≤ 65536) :
    Calls Try.prog 53 #[.pointer (some ⟨p, 0, none⟩), .int .i64 (k : Int)] w fun e w' => e = .returned (.bool (hB d k)) ∧ w' = w := by
  have hst := h.st
  unfold slc at hst
  have s0 := hst.cell (i := 0) rfl
  obtain ⟨cs, hcs, hN⟩ := h.nodes
  have a1 := hcs.cell (hN.lk k hk)
  have a3 := hcs.cell (hN.ls k hk)
  have hl : ∀ ty, (Builtin.len_ #[77] ty #[.map (b.lk k)]).run Try.prog w = .ok (.int .i64 (d.lc k : Int)) w := by
    intro ty
    cases hb : b.lk k with
    | none => rw [(h.lk0 k hk hb).1]; exact nil_len ty w
    | some g => exact (h.lk1 k g hk hb).len (t := 77) Try.underlying77 ty
  have hB2 : hB d k = (decide (k = 0) || decide (0 < d.lc k) || decide (0 < d.ls k)) := rfl
  generalize b.lk k = lk at *
  generalize d.lc k = lc at *
  generalize d.ls k = ls at *
  obtain ⟨bb, hbb⟩ : ∃ bb, hB d k = bb := ⟨_, rfl⟩
  rw [hbb] at hB2 ⊢
  have hcase : (((k : Int) == 0) = true ∧ bb = true) ∨ (((k : Int) == 0) = false ∧ decide ((0 : Int) < (lc : Int)) = true ∧ decide (0 < lc) = true ∧ 0 < lc ∧ bb = true) ∨ (((k : Int) == 0) = false ∧ lc = 0 ∧ decide ((0 : Int) < (ls : Int)) = true ∧ decide (0 < ls) = true ∧ 0 < ls ∧ bb = true) ∨ (((k : Int) == 0) = false ∧ lc = 0 ∧ ls = 0 ∧ bb = false) := by
    by_cases h1 : k = 0
    · left; refine ⟨by rw [beq_iff_eq]; omega, by rw [hB2]; simp [h1]⟩
    · have e1 : ((k : Int) == 0) = false := by rw [beq_eq_false_iff_ne]; omega
      by_cases h2 : 0 < lc
      · right; left; exact ⟨e1, by simp <;> omega, by simp <;> omega, h2, by rw [hB2]; simp [h2]⟩
      · by_cases h3 : 0 < ls
        · right; right; left; exact ⟨e1, by omega, by simp <;> omega, by simp <;> omega, h3, by rw [hB2]; simp [h3]⟩
        · right; right; right; exact ⟨e1, by omega, by omega, by rw [hB2]; simp [h1, h2, h3]⟩
  clear h hst hcs hN hB2 hbb
  rcases hcase with ⟨g1, rfl⟩ | ⟨g1, g2, g3, g4, rfl⟩ | ⟨g1, rfl, g2, g3, g4, rfl⟩ | ⟨g1, rfl, rfl, rfl⟩
  · go_enter Try.func53, Try.ntmps53
    go_wp2
    go_ret
    exact ⟨rfl, rfl⟩
  · go_enter Try.func53, Try.ntmps53
    go_wp2
    go_ret
    exact ⟨rfl, rfl⟩
  · go_enter Try.func53, Try.ntmps53
    go_wp2
    go_ret
    exact ⟨rfl, rfl⟩
  · go_enter Try.func53, Try.ntmps53
    go_wp2
    go_ret
    exact ⟨rfl, rfl⟩
set_option maxHeartbeats 2000000 in
set_option maxRecDepth 100000 in
/-- renumber, in place. -/
theorem renumber_any (w : World) (ao : Option Addr) (L : List Nat) (rb rn : Nat) (F : List Nat) (hl : L.length ≤ 65536) (hrn : F.length = rn) (hrn2 : rn ≤ 65536) (h : 0 < L.length → ∃ g, ao = some ⟨g, 0, none⟩ ∧ g ≠ rb ∧ Row w g 3 (nats L)) (hr : Row w rb 3 (nats F)) (hlt : ∀ x ∈ L, x < rn) :
    Calls Try.prog 54 #[.slice ao L.length L.length, .slice (some ⟨rb, 0, none⟩) rn rn] w fun e w' => e = .returned (.tuple #[]) ∧ (∀ g, ao = some ⟨g, 0, none⟩ → 0 < L.length → Row w' g 3 (nats (L.map fun x => F[x]?.getD 0)) ∧ w.grownBy w' (some g)) ∧ (L.length = 0 → w' = w) := by
  obtain ⟨ll, hll⟩ : ∃ ll, L.length = ll := ⟨_, rfl⟩
  rw [hll] at hl h ⊢
  have HLL : Hid (L.length = ll) := hll
  have HRN : Hid (F.length = rn) := hrn
  have HLT : Hid (∀ x ∈ L, x < rn) := hlt
  clear hll hrn hlt
  by_cases h0 : ll = 0
  · subst h0
    go_enter Try.func54, Try.ntmps54
    go_wp2_with fail
    go_loopg [8] 0 (fun g s wr => g = 0 ∧ s = .int .i64 0 ∧ wr = w)
    case atStart => exact ⟨rfl, rfl, rfl⟩
    case round =>
      obtain ⟨rfl, rfl, rfl⟩ := hrel
      go_wp2
      go_end0
      exact ⟨rfl, fun g _ h => by omega, fun _ => rfl⟩
  · obtain ⟨g, rfl, hne, hrow⟩ := h (by omega)
    clear h
    go_enter Try.func54, Try.ntmps54
    go_wp2_with fail
    go_loopg [8] ll (fun z s wr => ∃ (i : Nat), z = ll - i ∧ i ≤ ll ∧ s = .int .i64 i ∧ Row wr g 3 (nats ((L.take i).map (fun x => F[x]?.getD 0) ++ L.drop i)) ∧ w.grownBy wr (some g))
    case atStart => exact ⟨0, rfl, by omega, rfl, by simpa using hrow, grown_refl _ _⟩
    case round =>
      clear hrow
      rename World => wa
      obtain ⟨i, rfl, hi, rfl, hrow, hg⟩ := hrel
      by_cases hil : i < ll
      · have hiL : i < L.length := by rw [HLL.out]; exact hil
        obtain ⟨x, hx⟩ : ∃ x, L[i]? = some x := ⟨_, List.getElem?_eq_getElem hiL⟩
        have hxn : x < rn := HLT.out x (List.mem_of_getElem? hx)
        have hl1 : ((L.take i).map (fun x => F[x]?.getD 0)).length = i := by simp; omega
        have c1 := hrow.cell (i := i) (v := .int .i64 (x : Int)) (nats_at (by rw [List.getElem?_append_right (by omega), hl1, Nat.sub_self, List.getElem?_drop]; simpa using hx))
        have f1 := hrow.frozen i
        obtain ⟨y, hy⟩ : ∃ y, F[x]? = some y := ⟨_, List.getElem?_eq_getElem (by rw [HRN.out]; exact hxn)⟩
        have c2 := (hr.kept hg (by simpa using Ne.symm hne)).cell (nats_at hy)
        have HR : Hid (Row (wa.setCell ⟨g, i, none⟩ (.int .i64 (y : Int))) g 3 (nats ((L.take (i + 1)).map (fun x => F[x]?.getD 0) ++ L.drop (i + 1)))) := by
          have h1 := hrow.set i (.int .i64 (y : Int))
          rw [nats_set] at h1
          have e : ((L.take i).map (fun x => F[x]?.getD 0) ++ L.drop i).set i y = (L.take (i + 1)).map (fun x => F[x]?.getD 0) ++ L.drop (i + 1) := by
            rw [List.set_append_right _ _ (by omega), hl1, Nat.sub_self, List.drop_eq_getElem_cons hiL, List.set_cons_zero, List.take_add_one, hx]
            simp [hy]
          rw [e] at h1
          exact h1
        have HG : Hid (w.grownBy (wa.setCell ⟨g, i, none⟩ (.int .i64 (y : Int))) (some g)) := hg.trans (grown_set _ _ _ _)
        clear hrow hg hx hy hl1 hiL
        go_wp2
        go_roundg (ll - (i + 1))
        case measure => omega
        case rel => exact ⟨i + 1, rfl, by omega, by go_num, HR.out, HG.out⟩
      · have e : ll = i := by omega
        subst e
        have hrow2 : Row wa g 3 (nats (L.map fun x => F[x]?.getD 0)) := by
          rw [List.take_of_length_le (by rw [HLL.out]; omega), List.drop_of_length_le (by rw [HLL.out]; omega), List.append_nil] at hrow; exact hrow
        clear hrow
        go_wp2
        go_end0
        exact ⟨rfl, fun g' hg' _ => by cases hg'; exact ⟨hrow2, hg⟩, fun h => absurd h h0⟩
theorem ne_row {w : World} {b b' : Nat} {e e' : TypeId} {xs xs' : List Value} (h : Row w b e xs) (h' : Row w b' e' xs') (he : e ≠ e') : b ≠ b' := by
  intro e0
  subst e0
  unfold Row at h h'
  rw [h] at h'
  simp at h'
  exact he h'.2
theorem ne_map {κ : Type} {E : κ → Value} {w : World} {b b' k c : Nat} {e : TypeId} {xs : List Value} {f : κ → Option Int} (h : Row w b e xs) (h' : MapAt E w k b' c f) : b ≠ b' := by
  intro e0
  subst e0
  unfold Row at h
  obtain ⟨n, D, ⟨es, clock, h1, _⟩, _⟩ := h'
  rw [h] at h1
  simp at h1
def pdRel (d : PD) (k : Nat) : PD := { d with num := fun s => if s = d.nm k then none else d.num s, nc := d.nc - 1, rel := d.rel + 1 }
set_option maxHeartbeats 2000000 in
set_option maxRecDepth 100000 in
theorem release_any (w : World) (p n k : Nat) (d : PD) (b : PB) (h : PsAt w p n d b) (hk : k < n) (hn : n ≤ 65536) (hrel : d.rel ≤ 65536) (hlm : ∀ j g, j < n → b.lk j = some g → g ≠ b.mb) (hs : (d.nm k).size ≤ maxLen) (hin : hB d k = false → (d.num (d.nm k)).isSome = true) :
    Calls Try.prog 55 #[.pointer (some ⟨p, 0, none⟩), .int .i64 (k : Int)] w fun e w' => e = .returned (.tuple #[]) ∧ PsAt w' p n (if hB d k = true then d else pdRel d k) b ∧ Kp w.heap.size [p, b.mb] w w' := by
  have hc := held_any w p n k d b h hk hn
  have HP : Hid (PsAt w p n d b) := h
  have HLM : Hid (∀ j g, j < n → b.lk j = some g → g ≠ b.mb) := hlm
  have HIN : Hid (hB d k = false → (d.num (d.nm k)).isSome = true) := hin
  clear h hlm hin
  cases hb : hB d k with
  | true =>
    rw [hb] at hc
    go_enter Try.func55, Try.ntmps55
    go_wp2_with fail
    refine hc.mono ?_
    rintro e w1 ⟨rfl, hw1⟩
    rw [hw1]
    clear hc hw1
    go_wp2
    refine bodyPost_ret (results_none rfl _ _ _) rfl ?_
    exact ⟨rfl, by simpa using HP.out, Kp.refl _ _ _⟩
  | false =>
    rw [hb] at hc
    have hi := HIN.out hb
    obtain ⟨cs, hcs, hN⟩ := HP.out.nodes
    have hst := HP.out.st
    have hst2 := hst
    unfold slc at hst
    have s0 := hst.cell (i := 0) rfl
    have s1 := hst.cell (i := 1) rfl
    have a0 := hcs.cell (hN.nm k hk)
    obtain ⟨l, hl⟩ := key9 hs
    have hMd : MapAt kS w.drew 9 b.mb d.nc d.num := HP.out.num.kept (grown_drew (grown_refl _ none)) (by simp)
    obtain ⟨w2, hrun, hg2, hM2⟩ := hMd.drop (t := 72) kS_inj keyed9 Try.underlying72 hl hi 0
    unfold kS at hrun
    have hpm : p ≠ b.mb := ne_map hst HP.out.num
    have hst3 := (hst.drew).kept hg2 (by simpa using hpm)
    have t2 := hst3.cell (i := 2) rfl
    have u2 := hst3.frozen 2
    have HM2 : Hid (MapAt kS w2 9 b.mb (d.nc - 1) (fun u => if u = d.nm k then none else d.num u)) := hM2
    have HG2 : Hid (w.drew.grownBy w2 (some b.mb)) := hg2
    have HST : Hid (Row w2 p 75 [slc b.nb n, .map (some b.mb), .int .i64 (d.rel : Int), .slice (some ⟨b.pb, 0, none⟩) n b.pc, b.nx, b.qu]) := hst3
    have HPOST : Hid (PsAt (w2.setCell ⟨p, 2, none⟩ (.int .i64 ((d.rel : Int) + 1))) p n (pdRel d k) b ∧ Kp w.heap.size [p, b.mb] w (w2.setCell ⟨p, 2, none⟩ (.int .i64 ((d.rel : Int) + 1)))) := by
      have hrow : ∀ {c : Nat} {e : TypeId} {xs : List Value}, Row w c e xs → e ≠ 75 → Row (w2.setCell ⟨p, 2, none⟩ (.int .i64 ((d.rel : Int) + 1))) c e xs := fun hr he =>
        ((hr.drew).kept HG2.out (by simpa using ne_map hr HP.out.num)).setOther (ne_row hr HP.out.st he) _
      obtain ⟨cp, hcp, hPA, h3, h4, h5⟩ := HP.out.paths
      refine ⟨⟨?_, ⟨cs, hrow hcs (by decide), hN⟩, ⟨cp, hrow hcp (by decide), hPA, h3, h4, h5⟩, HM2.out.kept (grown_set _ _ _ _) (by simpa using Ne.symm hpm), HP.out.lk0, fun j g hj hg => ?_, HP.out.jn0, fun j g hj hg => hrow (HP.out.jn1 j g hj hg) (by decide)⟩, ?_⟩
      · have := HST.out.set 2 (.int .i64 ((d.rel : Int) + 1))
        show Row _ p 75 [slc b.nb n, .map (some b.mb), .int .i64 ((d.rel + 1 : Nat) : Int), .slice (some ⟨b.pb, 0, none⟩) n b.pc, b.nx, b.qu]
        rw [show ((d.rel + 1 : Nat) : Int) = (d.rel : Int) + 1 by omega]
        exact this
      · have hm := HP.out.lk1 j g hj hg
        have hmd := hm.kept (grown_drew (grown_refl w none)) (by simp)
        exact (hmd.kept HG2.out (by simpa using HLM.out j g hj hg)).kept (grown_set _ _ _ _) (by simpa using Ne.symm (ne_map HP.out.st hm))
      · have h1 : Kp w.heap.size [p, b.mb] w w2 := ((Kp.refl _ _ _).drew).grown HG2.out (by exact Nat.le_refl _) (fun q hq => .inr (by cases hq; simp))
        exact h1.setCell (.inr (by simp)) _
    clear hst hst2 hst3 hcs hN hl hMd hg2 hM2 hi
    generalize d.nm k = nmk at *
    go_enter Try.func55, Try.ntmps55
    go_wp2_with fail
    refine hc.mono ?_
    rintro e w1 ⟨rfl, hw1⟩
    rw [hw1]
    clear hc hw1
    go_wp2_with fail
    go_region
    go_wp2
    go_end0
    exact ⟨rfl, by simpa using HPOST.out.1, HPOST.out.2⟩
end Go.Proofs.Qxb6600010a
