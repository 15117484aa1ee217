/-
  THE WALK of zzState.
-/
import Derived.Test.Qxb6600010aStateP
import Derived.Test.Qxb6600010aNew
import Derived.BigRegion
import Derived.Deep.RegionLaw
import Derived.Deep.DrawnRows
import Derived.Deep.LoopGhost
import Derived.Deep.DeepCutAuto
import Derived.Laws.CopyOwn
namespace Go.Proofs.Qxb6600010a
open Go.RowKit
set_option linter.unusedVariables false
set_option linter.unusedSimpArgs false
attribute [local go_sem ↓] Go.wp_at_zero Go.wp_at_succ
/-- The world behind zzState's makes. -/
def stW (w : World) (n : Nat) (mc : List Value) : World :=
  (((((((w.alloc (Obj.cells mc.toArray 32)).alloc (Obj.cells (madeCells #[Value.slice none 0 0] n) 23)).alloc (Obj.cells (madeCells #[Value.slice none 0 0] n) 23)).alloc (Obj.cells (madeCells #[Value.slice none 0 0] n) 23)).alloc
    (Obj.cells (madeCells #[Value.int IntKind.i64 0] n) 3)).alloc (Obj.cells (madeCells #[Value.int IntKind.i64 0] n) 3)).alloc (Obj.cells (madeCells #[Value.int IntKind.i64 0] n) 3)).alloc (Obj.cells (madeCells #[Value.bool false] n) 4)
theorem row_made_at {w : World} {b : Nat} (hb : w.heap.size = b) (z : Value) (n : Nat) (e : TypeId) : Row (w.alloc (.cells (madeCells #[z] n) e)) b e (List.replicate n z) := by subst hb; exact row_made w z n e
theorem stW_facts (w : World) (B n : Nat) (mc : List Value) (m : PL.PM) (old : List Int) (keep : Int) (TV : List Value) (hB : w.heap.size = B) :
    Row (stW w n mc) B 32 mc ∧ StR (stW w n mc) B n 0 0 0 0 0 0 0 m old keep TV (fun _ => 0) (fun _ => none) ∧ Kp B [] w (stW w n mc) ∧ (stW w n mc).heap.size = B + 8 := by
  refine ⟨?_, ⟨?_, ?_, ?_, ?_, ?_, ?_, ?_, fun i hi => by omega, fun i hi => by omega, fun i g hi => by omega, fun i j g hi => by omega⟩, ?_, ?_⟩
  · have h := row_new w mc 32
    rw [hB] at h
    exact ((((((h.alloc _).alloc _).alloc _).alloc _).alloc _).alloc _).alloc _
  · rw [← tab_rep]
    exact ((((((row_made_at (by simp [hB]) _ n 23).alloc _).alloc _).alloc _).alloc _).alloc _).alloc _
  · rw [← tab_rep]
    exact (((((row_made_at (by simp [hB]) _ n 23).alloc _).alloc _).alloc _).alloc _).alloc _
  · rw [← tab_rep]
    exact ((((row_made_at (by simp [hB]) _ n 23).alloc _).alloc _).alloc _).alloc _
  · rw [← tab_rep, ← nats_replicate]
    exact (((row_made_at (by simp [hB]) _ n 3).alloc _).alloc _).alloc _
  · rw [← tab_rep, ← nats_replicate]
    exact ((row_made_at (by simp [hB]) _ n 3).alloc _).alloc _
  · rw [← tab_rep, ← nats_replicate]
    exact (row_made_at (by simp [hB]) _ n 3).alloc _
  · rw [← tab_rep]
    have : bools (List.replicate n false) = List.replicate n (Value.bool false) := by simp [bools]
    rw [this]
    exact row_made_at (by simp [hB]) _ n 4
  · subst hB
    exact ((((((((Kp.refl _ _ _).alloc (Nat.le_refl _) _).alloc (by simp) _).alloc (by simp; omega) _).alloc (by simp; omega) _).alloc (by simp; omega) _).alloc (by simp; omega) _).alloc (by simp; omega) _).alloc (by simp; omega) _
  · simp [stW, hB]
theorem size3 : (Try.prog.info? 3).map (·.size) = some 1 := by
  obtain ⟨i, hi, h1, h2, h3⟩ := info_parts info3
  rw [hi]; simp [h2]
/-- A copy that fills a fresh row. -/
theorem copy_fresh (W : World) (d n g c : Nat) (xs : List Nat) (hx : xs.length = n) (old : List Value) (ho : old.length = n) (hd : Row W d 3 old) (hs : ∀ (j : Nat) (v : Value), (nats xs)[j]? = some v → W.cell? ⟨g, j, none⟩ = some v) :
    ∃ W2, (Builtin.copy_ #[23, 23] 3 #[.slice (some ⟨d, 0, none⟩) n n, .slice (some ⟨g, 0, none⟩) n c]).run Try.prog W = .ok (goInt n) W2 ∧ Row W2 d 3 (nats xs) ∧ W.grownBy W2 (some d) := by
  have hl : (nats xs).length = n := by rw [nats_len]; exact hx
  have hcp := run_copy_row (P := Try.prog) W 23 23 3 3 d 0 n n ⟨g, 0, none⟩ n c old.toArray 3 (nats xs) Try.underlying23 size3 hd (by rw [hl]; exact (Nat.min_self n).symm) (fun j v hv => by rw [Addr.add_lit, Nat.zero_add]; exact hs j v hv) (by rw [hl]; simp [ho]) (by intro v hv; simp only [nats, List.mem_map] at hv; obtain ⟨_, _, rfl⟩ := hv; rfl)
  refine ⟨W.setRow d (old.toArray.toList.take 0 ++ nats xs ++ old.toArray.toList.drop (0 + (nats xs).length)).toArray, by rw [hcp, hl], ?_, ⟨rfl, rfl, rfl, by simp [World.setRow], fun k hk hne => setRow_other W d k _ (fun e => hne (by rw [e]))⟩⟩
  have := setRow_heap W d _ (old.toArray.toList.take 0 ++ nats xs ++ old.toArray.toList.drop (0 + (nats xs).length)).toArray 3 _ hd
  unfold Row
  rw [this]
  simp [hl, ← ho]
/-- A Paths that was made beyond B, all its parts apart. -/
structure PFr (B p n : Nat) (b : PB) : Prop where
  pc : b.pc = n
  nx : b.nx = .slice none 0 0
  qu : b.qu = .slice none 0 0
  pp : B ≤ p
  nb : B ≤ b.nb
  mb : B ≤ b.mb
  pb : B ≤ b.pb
  p1 : p ≠ b.nb
  p2 : p ≠ b.mb
  p3 : p ≠ b.pb
  np : b.nb ≠ b.pb
  lk : ∀ k g, k < n → b.lk k = some g → B ≤ g ∧ g ≠ p ∧ g ≠ b.nb ∧ g ≠ b.pb ∧ g ≠ b.mb
  jb : ∀ k g, k < n → b.jb k = some g → B ≤ g ∧ g ≠ p ∧ g ≠ b.nb ∧ g ≠ b.pb ∧ g ≠ b.mb
  ji : ∀ i j g, i < n → j < n → b.jb i = some g → b.jb j = some g → i = j
  jl : ∀ i j g g', i < n → j < n → b.jb i = some g → b.lk j = some g' → g ≠ g'

set_option maxHeartbeats 20000000 in
set_option maxRecDepth 100000 in
theorem state_any (w : World) (n : Nat) (names : List ByteArray) (nmb : Nat) (m : PL.PM) (b : MB) (ov : Value) (old : List Int) (keep : Int) (hc : Nat)
    (hm : PL.PMesh names n m) (hM : MeshAt w n b m) (hnm : Row w nmb 9 (strs names)) (hov : IntsIn w ov old) (hol : old.length ≤ 65536) (hk1 : -1 ≤ keep) (hk2 : keep ≤ 65536) (hsz : ∀ k : Nat, (names[k]?.getD ⟨#[]⟩).size ≤ maxLen) :
    Calls Try.prog 16 #[meshV n b hc, slc nmb n, ov, .int .i64 keep] w fun e w' => ∃ (p : Nat) (b' : PB), e = .returned (.pointer (some ⟨p, 0, none⟩)) ∧ PsAt w' p n (pdState n names m old keep) b' ∧ Kp w.heap.size [] w w' ∧ PFr w.heap.size p n b' := by
  have hn0 := hm.n0
  have hn := hm.n1
  have hmk23 := run_make_row' (P := Try.prog) 23 3 (.int .i64 0) 8 Try.underlying23 info3 rfl .i64 .i64 n (by omega) (by omega)
  have hmk28 := run_make_row' (P := Try.prog) 28 23 (.slice none 0 0) 24 Try.underlying28 info23 rfl .i64 .i64 n (by omega) (by omega)
  have hmk30 := run_make_row' (P := Try.prog) 30 4 (.bool false) 1 Try.underlying30 info4 rfl .i64 .i64 n (by omega) (by omega)
  have HM : Hid (PL.PMesh names n m) := hm
  have HA : Hid (MeshAt w n b m) := hM
  have HN : Hid (Row w nmb 9 (strs names)) := hnm
  have HO : Hid (IntsIn w ov old) := hov
  have HSZ : Hid (∀ k : Nat, (names[k]?.getD ⟨#[]⟩).size ≤ maxLen) := hsz
  clear hm hM hnm hov hsz
  unfold meshV slc
  go_enter Try.func16, Try.ntmps16
  go_wp2
  obtain ⟨B, hB⟩ : ∃ B, w.heap.size = B := ⟨_, rfl⟩
  have HB : Hid (w.heap.size = B) := hB
  obtain ⟨hbox, hS, hK1, hs1⟩ := stW_facts w B n [.int .i64 (n : Int), .slice (some ⟨b.rb, 0, none⟩) n n, .slice (some ⟨b.tb, 0, none⟩) n n, .map (some b.cb), .slice (some ⟨b.jb, 0, none⟩) n n, .slice (some ⟨b.lb, 0, none⟩) n n, .slice (some ⟨b.hb, 0, none⟩) n n, .int .i64 (hc : Int)] m old keep b.TV hB
  generalize hw1 : stW w n [.int .i64 (n : Int), .slice (some ⟨b.rb, 0, none⟩) n n, .slice (some ⟨b.tb, 0, none⟩) n n, .map (some b.cb), .slice (some ⟨b.jb, 0, none⟩) n n, .slice (some ⟨b.lb, 0, none⟩) n n, .slice (some ⟨b.hb, 0, none⟩) n n, .int .i64 (hc : Int)] = w1 at *
  unfold stW at hw1
  rw [hw1, hB]
  have HS1 : Hid (w1.heap.size = B + 8) := hs1
  have hA1 := HA.out.kp (by rw [hB]; exact hK1)
  clear hw1 hB hs1
  obtain ⟨oa, rfl, hor⟩ := HO.out.form
  have HOR : Hid (0 < old.length → ∃ b, oa = some ⟨b, 0, none⟩ ∧ b < B ∧ Row w1 b 3 (ints old)) := fun h0 => by
    obtain ⟨q, e1, h1⟩ := hor h0
    have hl := h1.lt
    rw [HB.out] at hl
    exact ⟨q, e1, hl, h1.kp hK1 hl (by simp)⟩
  clear hor HO
  have HA1 : Hid (MeshAt w1 n b m) := hA1
  have HLT : Hid (b.rb < B ∧ b.tb < B ∧ b.cb < B ∧ b.jb < B ∧ b.lb < B ∧ b.hb < B) := by
    have h1 := HA.out.rank.lt
    have h2 := HA.out.tg.row.lt
    have h3 := HA.out.tg.cnt.lt
    have h4 := HA.out.jn.row.lt
    have h5 := HA.out.lst.lt
    have h6 := HA.out.held.lt
    rw [HB.out] at h1 h2 h3 h4 h5 h6
    exact ⟨h1, h2, h3, h4, h5, h6⟩
  clear hA1
  rw [show B + 1 + 1 = B + 2 from rfl, show B + 2 + 1 = B + 3 from rfl, show B + 3 + 1 = B + 4 from rfl, show B + 4 + 1 = B + 5 from rfl, show B + 5 + 1 = B + 6 from rfl, show B + 6 + 1 = B + 7 from rfl]
  go_loopg [17, 18] n (fun g r s wr => ∃ (k : Nat) (qf : Nat → Nat) (jf : Nat → Option Nat), g = n - k ∧ k ≤ n ∧ s = .int .i64 k ∧ r = .int .i64 (PL.relC m keep k : Int) ∧ StR wr B n k k k k k k k m old keep b.TV qf jf ∧ Kp (B + 8) [B + 1, B + 2, B + 3, B + 4, B + 5, B + 6, B + 7] w1 wr)
  case atStart => exact ⟨0, _, _, rfl, by omega, rfl, rfl, hS, Kp.refl _ _ _⟩
  case round =>
    clear hS
    obtain ⟨k, qf, jf, rfl, hk, rfl, rfl, hS, hKr⟩ := hrel
    by_cases hkn : k < n
    · have hKw : Kp B [] w wr := hK1.trans (hKr.mono (by omega) (fun q h1 h2 => by simp at h2; omega))
      have hbr := hbox.kp hKr (by omega) (by simp)
      have c2 := hbr.cell (i := 2) rfl
      have c3 := hbr.cell (i := 3) rfl
      have hMr := HA.out.kp (by rw [HB.out]; exact hKw)
      have hkT : k < b.TV.length := by rw [hMr.tg.len]; exact hkn
      obtain ⟨tv, htv⟩ : ∃ tv, b.TV[k]? = some tv := ⟨_, List.getElem?_eq_getElem hkT⟩
      have hown := hMr.tg.own k tv htv
      obtain ⟨ao, tc, rfl, _⟩ := owns_form hown
      have tcell := hMr.tg.row.cell htv
      have hsh := HM.out.inv.short k
      obtain ⟨tk, htk⟩ : ∃ tk, (PL.tg m.S.T k).length = tk := ⟨_, rfl⟩
      rw [htk] at tcell hsh htv
      have HTK : Hid ((PL.tg m.S.T k).length = tk) := htk
      have HTV : Hid (b.TV[k]? = some (.slice ao tk tc)) := htv
      have hmkT := run_make_row' (P := Try.prog) 23 3 (.int .i64 0) 8 Try.underlying23 info3 rfl .i64 .i64 tk (by omega) (by omega)
      have l1 := hS.lt.cell (i := k) (v := .slice none 0 0) (by rw [tab_at _ _ _ hkn, pre_self])
      have l2 := hS.lt.frozen k
      have hS1 := hS.setLt (.slice ao tk tc) htv
      have hK1r := hKr.setCell (b := B + 1) (o := k) (.inr (by simp)) (.slice ao tk tc)
      have HS0 : Hid (StR wr B n k k k k k k k m old keep b.TV qf jf) := hS
      clear hS hown htk htv hkT hMr hbr hKw
      go_upto_region 14 with fail
      generalize wr.setCell ⟨B + 1, k, none⟩ (.slice ao tk tc) = wx at *
      clear c2 c3 tcell l1 l2
      have hKw : Kp B [] w wx := hK1.trans (hK1r.mono (by omega) (fun q h1 h2 => by simp at h2; omega))
      have hbr := hbox.kp hK1r (by omega) (by simp)
      have c2 := hbr.cell (i := 2) rfl
      have tcell := (HA.out.kp (by rw [HB.out]; exact hKw)).tg.row.cell HTV.out
      have hszx : B + 8 ≤ wx.heap.size := by rw [← HS1.out]; exact hK1r.size
      go_upto_region 15 with fail
      clear c2 tcell
      obtain ⟨tb, htb⟩ : ∃ tb, wx.heap.size = tb := ⟨_, rfl⟩
      have hrow : Row (wx.alloc (Obj.cells (madeCells #[Value.int IntKind.i64 0] tk) 3)) tb 3 (nats (tab tk (pre 0 (fun i => m.S.ct (k, (PL.tg m.S.T k)[i]?.getD 0)) 0))) := by
        have := row_made wx (.int .i64 0) tk 3
        rw [htb] at this
        rw [← tab_rep, ← nats_replicate]; exact this
      have hKy : Kp tb [] wx (wx.alloc (Obj.cells (madeCells #[Value.int IntKind.i64 0] tk) 3)) := by rw [← htb]; exact (Kp.refl _ _ _).alloc (Nat.le_refl _) _
      have hsy : (wx.alloc (Obj.cells (madeCells #[Value.int IntKind.i64 0] tk) 3)).heap.size = tb + 1 := by rw [World.size_alloc, htb]
      rw [htb]
      rw [htb] at hszx
      have HTB : Hid (wx.heap.size = tb) := htb
      generalize wx.alloc (Obj.cells (madeCells #[Value.int IntKind.i64 0] tk) 3) = wy at *
      have HSX : Hid (StR wx B n (k + 1) k k k k k k m old keep b.TV qf jf) := hS1
      have HKX : Hid (Kp (B + 8) [B + 1, B + 2, B + 3, B + 4, B + 5, B + 6, B + 7] w1 wx) := hK1r
      clear htb hS1 HS0 hKr hmkT
      have HTX : Hid (∀ wz, Kp tb [] wx wz → Kp (B + 8) [B + 1, B + 2, B + 3, B + 4, B + 5, B + 6, B + 7] w1 wz) := fun wz h => HKX.out.trans (h.mono hszx (by simp))
      have HTW : Hid (∀ wz, Kp tb [] wx wz → Kp B [] w wz) := fun wz h => hKw.trans (h.mono (by omega) (by simp))
      clear hKw hK1r hbr
      have c2 := (hbox.kp (HTX.out _ hKy) (by omega) (by simp)).cell (i := 2) rfl
      have tcell := (HA.out.kp (by rw [HB.out]; exact HTW.out _ hKy)).tg.row.cell HTV.out
      go_wp2_with fail
      go_loopg [66] tk (fun g s wi => ∃ (t : Nat), g = tk - t ∧ t ≤ tk ∧ s = .int .i64 t ∧ Row wi tb 3 (nats (tab tk (pre t (fun i => m.S.ct (k, (PL.tg m.S.T k)[i]?.getD 0)) 0))) ∧ Kp tb [] wx wi)
      case atStart => exact ⟨0, rfl, by omega, rfl, hrow, hKy⟩
      case round =>
        clear hrow hKy c2 tcell
        rename World => wi
        obtain ⟨t, rfl, ht, rfl, hrow, hKy⟩ := hrel
        by_cases htt : t < tk
        · have hMi := HA.out.kp (by rw [HB.out]; exact HTW.out _ hKy)
          have hown := hMi.tg.own k _ HTV.out
          rw [HTK.out] at hown
          obtain ⟨g', cap', rest', hge, _, hrow', _, _, _⟩ := owns_to_row hown (by omega)
          simp only [Value.slice.injEq, true_and] at hge
          obtain ⟨rfl, rfl⟩ := hge
          obtain ⟨x, hx⟩ : ∃ x, (PL.tg m.S.T k)[t]? = some x := ⟨_, List.getElem?_eq_getElem (by rw [HTK.out]; exact htt)⟩
          have xc := hrow'.cell (at_left (nats_at hx))
          have hxr := HM.out.inv.rng k x ((HM.out.inv.mem k x).1 (List.mem_of_getElem? hx))
          have hxn : x < n := hxr.2.1
          have hlk := hMi.tg.look (p := (k, x)) (by show k ≤ _; omega) (by show x ≤ _; omega)
          unfold kP at hlk
          have c3 := (hbox.kp (HTX.out _ hKy) (by omega) (by simp)).cell (i := 3) rfl
          have d1 := hrow.cell (i := t) (v := .int .i64 0) (nats_at (x := 0) (by rw [tab_at _ _ _ htt, pre_self]))
          have d2 := hrow.frozen t
          have HR' : Hid (Row (wi.setCell ⟨tb, t, none⟩ (.int .i64 (m.S.ct (k, x) : Int))) tb 3 (nats (tab tk (pre (t + 1) (fun i => m.S.ct (k, (PL.tg m.S.T k)[i]?.getD 0)) 0)))) := by
            have := hrow.set t (.int .i64 (m.S.ct (k, x) : Int))
            rw [nats_set, tab_pre' tk t _ _ _ (by rw [hx]; rfl)] at this
            exact this
          have HK' : Hid (Kp tb [] wx (wi.setCell ⟨tb, t, none⟩ (.int .i64 (m.S.ct (k, x) : Int)))) := hKy.setCell (.inl (Nat.le_refl _)) _
          have hsm := HM.out.inv.small (k, x)
          generalize m.S.ct (k, x) = cx at *
          clear hrow hKy hMi hown hrow' hx hxr
          go_wp2
          go_roundg (tk - (t + 1))
          case measure => omega
          case rel => exact ⟨t + 1, rfl, by omega, by go_num, HR'.out, HK'.out⟩
        · have e : tk = t := by omega
          subst e
          have hrow2 : Row wi tb 3 (nats ((PL.tg m.S.T k).map fun t => m.S.ct (k, t))) := by
            rw [tab_full, ← HTK.out, ← map_tab (fun x => m.S.ct (k, x))] at hrow; exact hrow
          have hSi := HSX.out.kp (by rw [HTB.out]; exact hKy)
          have hKi := HTX.out _ hKy
          have l1 := hSi.lq.cell (i := k) (v := .slice none 0 0) (by rw [tab_at _ _ _ hkn, pre_self])
          have l2 := hSi.lq.frozen k
          have hS2 := hSi.setLq tb hszx hrow2
          have hK2 := hKi.setCell (b := B + 2) (o := k) (.inr (by simp)) (slc tb (PL.tg m.S.T k).length)
          rw [HTK.out] at hS2 hK2
          unfold slc at hS2 hK2
          clear hSi hKi hrow hKy hrow2 HTX HTW HSX HKX HTB HTK HTV htt
          go_upto_region 21 with fail
          generalize wi.setCell ⟨B + 2, k, none⟩ (.slice (some ⟨tb, 0, none⟩) tk tk) = w2 at *
          clear l1 l2
          have hKw : Kp B [] w w2 := hK1.trans (hK2.mono (by omega) (fun q h1 h2 => by simp at h2; omega))
          have c4 := (hbox.kp hK2 (by omega) (by simp)).cell (i := 4) rfl
          have hM2 := HA.out.kp (by rw [HB.out]; exact hKw)
          obtain ⟨jv, hjv⟩ : ∃ jv, b.JV[k]? = some jv := ⟨_, List.getElem?_eq_getElem (by rw [hM2.jn.len]; exact hkn)⟩
          have hown := hM2.jn.own k jv hkn hjv
          obtain ⟨jo, jc, rfl, _⟩ := owns_form hown
          have jcell := hM2.jn.row.cell hjv
          have hjl : (PL.tg m.J k).length ≤ 65536 := by
            have h1 := (HM.out.jp k hkn).length_eq
            have h2 := List.length_filter_le (fun b => decide (0 < m.S.ct (b, k))) (PL.tg m.S.T k)
            have h3 := HM.out.inv.short k
            omega
          obtain ⟨jl, hjle⟩ : ∃ jl, (PL.tg m.J k).length = jl := ⟨_, rfl⟩
          rw [hjle] at hjl jcell hjv
          have HJL : Hid ((PL.tg m.J k).length = jl) := hjle
          have HJV : Hid (b.JV[k]? = some (.slice jo jl jc)) := hjv
          have hsz2 : B + 8 ≤ w2.heap.size := by rw [← HS1.out]; exact hK2.size
          have hmkJ := run_make_row' (P := Try.prog) 23 3 (.int .i64 0) 8 Try.underlying23 info3 rfl .i64 .i64 jl (by omega) (by omega)
          have HS2 : Hid (StR w2 B n (k + 1) (k + 1) k k k k k m old keep b.TV (upd qf k tb) jf) := hS2
          have HK2 : Hid (Kp (B + 8) [B + 1, B + 2, B + 3, B + 4, B + 5, B + 6, B + 7] w1 w2) := hK2
          clear hjle hjv hS2 hM2 hown
          go_upto_if 91 with fail
          go_cut [] (fun wc => ∃ jf', StR wc B n (k + 1) (k + 1) (k + 1) k k k k m old keep b.TV (upd qf k tb) jf' ∧ Kp (B + 8) [B + 1, B + 2, B + 3, B + 4, B + 5, B + 6, B + 7] w1 wc)
          case first =>
            by_cases hj0 : jl = 0
            · subst hj0
              go_wp2
              go_meet
              case rel => exact ⟨_, HS2.out.stayLj (List.eq_nil_of_length_eq_zero HJL.out), HK2.out⟩
            · have hjb : decide ((0 : Int) < (jl : Int)) = true := by simp; omega
              have hjb2 : decide (0 < jl) = true := by simp; omega
              have hjp : 0 < jl := by omega
              clear hj0
              go_upto_region 23 with fail
              obtain ⟨jb, hjbe⟩ : ∃ jb, w2.heap.size = jb := ⟨_, rfl⟩
              have hrow : Row (w2.alloc (Obj.cells (madeCells #[Value.int IntKind.i64 0] jl) 3)) jb 3 (List.replicate jl (.int .i64 0)) := by rw [← hjbe]; exact row_made w2 (.int .i64 0) jl 3
              have hKy : Kp jb [] w2 (w2.alloc (Obj.cells (madeCells #[Value.int IntKind.i64 0] jl) 3)) := by rw [← hjbe]; exact (Kp.refl _ _ _).alloc (Nat.le_refl _) _
              rw [hjbe]
              rw [hjbe] at hsz2
              have HJB : Hid (w2.heap.size = jb) := hjbe
              have HJS : Hid ((w2.alloc (Obj.cells (madeCells #[Value.int IntKind.i64 0] jl) 3)).heap.size = jb + 1) := by show _ = _; rw [World.size_alloc, hjbe]
              generalize w2.alloc (Obj.cells (madeCells #[Value.int IntKind.i64 0] jl) 3) = wy at *
              clear hjbe c4 jcell
              have HTX : Hid (∀ wz, Kp jb [] w2 wz → Kp (B + 8) [B + 1, B + 2, B + 3, B + 4, B + 5, B + 6, B + 7] w1 wz) := fun wz h => HK2.out.trans (h.mono hsz2 (by simp))
              have HTW : Hid (∀ wz, Kp jb [] w2 wz → Kp B [] w wz) := fun wz h => hKw.trans (h.mono (by omega) (by simp))
              have hMy := HA.out.kp (by rw [HB.out]; exact HTW.out _ hKy)
              have c4 := (hbox.kp (HTX.out _ hKy) (by omega) (by simp)).cell (i := 4) rfl
              have jcell := hMy.jn.row.cell HJV.out
              have hown := hMy.jn.own k _ hkn HJV.out
              rw [HJL.out] at hown
              obtain ⟨g', cap', rest', hge, _, hrow', _, _, _⟩ := owns_to_row hown (by omega)
              simp only [Value.slice.injEq, true_and] at hge
              obtain ⟨rfl, rfl⟩ := hge
              obtain ⟨W2, hcp, hR2, hg2⟩ := copy_fresh wy jb jl g' jc (PL.tg m.J k) HJL.out _ (by simp) hrow (fun j v hv => hrow'.cell (at_left hv))
              have hKz : Kp jb [] w2 W2 := hKy.trans ((Kp.refl _ _ _).grown hg2 (by rw [HJS.out]; omega) (fun q hq => .inl (by cases hq; exact Nat.le_refl _)))
              clear hrow hKy hMy hown hrow' hg2
              have hSz := HS2.out.kp (by rw [HJB.out]; exact hKz)
              have hKz2 := HTX.out _ hKz
              have l1 := hSz.lj.cell (i := k) (v := .slice none 0 0) (by rw [tab_at _ _ _ hkn, pre_self])
              have l2 := hSz.lj.frozen k
              have hS3 := hSz.setLj jb hsz2 (fun i q hi hq => by have := (HS2.out.j1 i q hi hq).2.lt; rw [HJB.out] at this; omega) hR2
              have hK3 := hKz2.setCell (b := B + 3) (o := k) (.inr (by simp)) (slc jb (PL.tg m.J k).length)
              rw [HJL.out] at hS3 hK3
              unfold slc at hS3 hK3
              have HS3 : Hid _ := hS3
              have HK3 : Hid _ := hK3
              clear hSz hKz hKz2 hS3 hK3 hR2 hmkJ
              go_wp2
              go_meet
              case rel => exact ⟨_, HS3.out, HK3.out⟩
          case rest =>
            obtain ⟨jf2, hS3, hK3⟩ := hcut
            clear HS2 HK2 hKw c4 jcell hmkJ hK2 HJL HJV
            have hKw : Kp B [] w wc := hK1.trans (hK3.mono (by omega) (fun q h1 h2 => by simp at h2; omega))
            have c6 := (hbox.kp hK3 (by omega) (by simp)).cell (i := 6) rfl
            have hh := (HA.out.kp (by rw [HB.out]; exact hKw)).held.cell (bools_at (PL.hds_at m.S.T m.ls n k hkn))
            have l1 := hS3.nu.cell (i := k) (v := .bool false) (bools_at (by rw [tab_at _ _ _ hkn, pre_self]))
            have l2 := hS3.nu.frozen k
            have hS4 := hS3.setNu (PL.numB m keep k) rfl
            have hK4 := hK3.setCell (b := B + 7) (o := k) (.inr (by simp)) (.bool (PL.numB m keep k))
            obtain ⟨hv, hhv⟩ : ∃ hv, PL.hdB m.S.T m.ls k = hv := ⟨_, rfl⟩
            obtain ⟨nv, hnv⟩ : ∃ nv, PL.numB m keep k = nv := ⟨_, rfl⟩
            have hnv2 : nv = (hv || decide ((k : Int) = keep)) := by rw [← hnv, ← hhv]; rfl
            rw [hhv] at hh
            rw [hnv] at hS4 hK4
            have HNV : Hid (PL.numB m keep k = nv) := hnv
            have HS4 : Hid (StR (wc.setCell ⟨B + 7, k, none⟩ (.bool nv)) B n (k + 1) (k + 1) (k + 1) k k k (k + 1) m old keep b.TV (upd qf k tb) jf2) := hS4
            have HK4 : Hid (Kp (B + 8) [B + 1, B + 2, B + 3, B + 4, B + 5, B + 6, B + 7] w1 (wc.setCell ⟨B + 7, k, none⟩ (.bool nv))) := hK4
            have hcase : (hv = true ∧ nv = true) ∨ (hv = false ∧ ((k : Int) == keep) = true ∧ nv = true) ∨ (hv = false ∧ ((k : Int) == keep) = false ∧ nv = false) := by
              cases hv
              · by_cases e : (k : Int) = keep
                · right; left; exact ⟨rfl, by rw [beq_iff_eq]; exact e, by simp [hnv2, e]⟩
                · right; right; exact ⟨rfl, by rw [beq_eq_false_iff_ne]; exact e, by simp [hnv2, e]⟩
              · left; exact ⟨rfl, by simp [hnv2]⟩
            clear hS3 hK3 hS4 hK4 hhv hnv hnv2 hKw
            go_upto_region 25 with fail
            go_cut [] (fun wd => wd = wc.setCell ⟨B + 7, k, none⟩ (.bool nv))
            case first =>
              rcases hcase with ⟨rfl, rfl⟩ | ⟨rfl, hb, rfl⟩ | ⟨rfl, hb, rfl⟩
              · go_wp2
                go_meet
                case rel => rfl
              · go_wp2
                go_meet
                case rel => rfl
              · go_wp2
                go_meet
                case rel => rfl
            case rest =>
              subst hcut
              generalize wc.setCell ⟨B + 7, k, none⟩ (.bool nv) = wd at *
              clear c6 hh l1 l2 hcase
              have l1 := HS4.out.nu.cell (i := k) (v := .bool nv) (bools_at (by rw [tab_at _ _ _ hkn]; simp [pre, HNV.out]))
              have hrc := PL.relC_le m keep k
              have hrs := PL.relC_succ m keep k
              rw [HNV.out] at hrs
              obtain ⟨rc, hrce⟩ : ∃ rc, PL.relC m keep k = rc := ⟨_, rfl⟩
              rw [hrce] at hrc hrs ⊢
              have HRS : Hid (PL.relC m keep (k + 1) = rc + if nv = true then 0 else 1) := hrs
              clear hrs hrce
              cases nv with
              | false =>
                have HSF : Hid (StR wd B n (k + 1) (k + 1) (k + 1) (k + 1) (k + 1) (k + 1) (k + 1) m old keep b.TV (upd qf k tb) jf2) := HS4.out.stayP (by unfold PL.oldP; rw [if_neg (fun h => by rw [HNV.out] at h; simp at h)])
                go_wp2
                go_roundg (n - (k + 1))
                case measure => omega
                case rel => exact ⟨k + 1, upd qf k tb, jf2, rfl, by omega, by go_num, by rw [HRS.out]; go_num, HSF.out, HK4.out⟩
              | true =>
                by_cases hin : 0 < k ∧ 3 * k + 2 < old.length
                · obtain ⟨hk0, hol2⟩ := hin
                  obtain ⟨ob, rfl, hob, horow⟩ := HOR.out (by omega)
                  have g1 : decide ((0 : Int) < (k : Int)) = true := by simp; omega
                  have g2 : decide (0 < k) = true := by simp; omega
                  have g4 : decide (3 * (k : Int) + 2 < (old.length : Int)) = true := by simp; omega
                  obtain ⟨x0, hx0⟩ : ∃ x, old[3 * k]? = some x := ⟨_, List.getElem?_eq_getElem (by omega)⟩
                  obtain ⟨x1, hx1⟩ : ∃ x, old[3 * k + 1]? = some x := ⟨_, List.getElem?_eq_getElem (by omega)⟩
                  obtain ⟨x2, hx2⟩ : ∃ x, old[3 * k + 2]? = some x := ⟨_, List.getElem?_eq_getElem (by omega)⟩
                  have hor := horow.kp HK4.out (by omega) (by simp; omega)
                  have o2 := hor.cell (ints_at hx2)
                  have HOP : Hid (PL.oldP n m old keep k = if 0 < PL.md x2 (n + 1) then ⟨PL.md x0 n, PL.md x1 n, PL.md x2 (n + 1)⟩ else pt0) := by
                    show PL.oldP n m old keep k = _
                    unfold PL.oldP
                    rw [hx0, hx1, hx2, HNV.out]
                    by_cases h : 0 < PL.md x2 (n + 1)
                    · rw [if_pos ⟨rfl, hk0, hol2, h⟩, if_pos h]; rfl
                    · rw [if_neg (fun h' => h h'.2.2.2), if_neg h]
                  have ca := mod_any x2 (n + 1) wd (by omega) (by omega)
                  obtain ⟨hh, hhe⟩ : ∃ hh, PL.md x2 (n + 1) = hh := ⟨_, rfl⟩
                  have hhl : hh < n + 1 := by rw [← hhe]; exact PL.md_lt _ _ (by omega)
                  rw [hhe] at ca HOP
                  rw [show ((n + 1 : Nat) : Int) = (n : Int) + 1 from by omega] at ca
                  have HROW : Hid (Row w1 ob 3 (ints old)) := horow
                  have HXS : Hid (old[3 * k]? = some x0 ∧ old[3 * k + 1]? = some x1) := ⟨hx0, hx1⟩
                  clear hx0 hx1 hx2 hor horow hhe
                  go_wp2_with fail
                  refine ca.mono ?_
                  rintro e wq ⟨rfl, hwq⟩
                  rw [hwq]
                  clear ca hwq
                  by_cases hh0 : hh = 0
                  · subst hh0
                    have HSF : Hid (StR wd B n (k + 1) (k + 1) (k + 1) (k + 1) (k + 1) (k + 1) (k + 1) m old keep b.TV (upd qf k tb) jf2) := HS4.out.stayP (by rw [HOP.out]; rfl)
                    go_wp2
                    go_roundg (n - (k + 1))
                    case measure => omega
                    case rel => exact ⟨k + 1, upd qf k tb, jf2, rfl, by omega, by go_num, by rw [HRS.out]; rfl, HSF.out, HK4.out⟩
                  · have hp : 0 < hh := by omega
                    have g5 : decide ((0 : Int) < (hh : Int)) = true := by simp; omega
                    have g6 : decide (0 < hh) = true := by simp; omega
                    have HOP2 : Hid (PL.oldP n m old keep k = ⟨PL.md x0 n, PL.md x1 n, hh⟩) := by show _ = _; rw [HOP.out, if_pos hp]
                    clear hh0
                    have o0 := (HROW.out.kp HK4.out (by omega) (by simp; omega)).cell (ints_at HXS.out.1)
                    have l4 := HS4.out.vi.cell (i := k) (v := .int .i64 0) (nats_at (x := 0) (by rw [tab_at _ _ _ hkn, pre_self]))
                    have l5 := HS4.out.vi.frozen k
                    have ca := mod_any x0 n wd (by omega) (by omega)
                    obtain ⟨v0, hv0⟩ : ∃ v0, PL.md x0 n = v0 := ⟨_, rfl⟩
                    rw [hv0] at ca HOP2
                    clear hv0
                    have hS5 := HS4.out.setVi v0 (by rw [HOP2.out])
                    have hK5 := HK4.out.setCell (b := B + 4) (o := k) (.inr (by simp)) (.int .i64 (v0 : Int))
                    go_wp2_with fail
                    refine ca.mono ?_
                    rintro e wq ⟨rfl, hwq⟩
                    rw [hwq]
                    clear ca hwq o2 l1
                    go_upto_region 32 with fail
                    generalize wd.setCell ⟨B + 4, k, none⟩ (.int .i64 (v0 : Int)) = we at *
                    clear o0 l4 l5
                    have o1 := (HROW.out.kp hK5 (by omega) (by simp; omega)).cell (ints_at HXS.out.2)
                    have l4 := hS5.pr.cell (i := k) (v := .int .i64 0) (nats_at (x := 0) (by rw [tab_at _ _ _ hkn, pre_self]))
                    have l5 := hS5.pr.frozen k
                    have ca := mod_any x1 n we (by omega) (by omega)
                    obtain ⟨v1, hv1⟩ : ∃ v1, PL.md x1 n = v1 := ⟨_, rfl⟩
                    rw [hv1] at ca HOP2
                    clear hv1
                    have hS6 := hS5.setPr v1 (by rw [HOP2.out])
                    have hK6 := hK5.setCell (b := B + 5) (o := k) (.inr (by simp)) (.int .i64 (v1 : Int))
                    clear hS5 hK5
                    go_wp2_with fail
                    refine ca.mono ?_
                    rintro e wq ⟨rfl, hwq⟩
                    rw [hwq]
                    clear ca hwq
                    go_upto_region 33 with fail
                    generalize we.setCell ⟨B + 5, k, none⟩ (.int .i64 (v1 : Int)) = wf at *
                    clear o1 l4 l5
                    have l4 := hS6.ho.cell (i := k) (v := .int .i64 0) (nats_at (x := 0) (by rw [tab_at _ _ _ hkn, pre_self]))
                    have l5 := hS6.ho.frozen k
                    have HS7 : Hid _ := hS6.setHo hh (by rw [HOP2.out])
                    have HK7 : Hid _ := hK6.setCell (b := B + 6) (o := k) (.inr (by simp)) (.int .i64 (hh : Int))
                    clear hS6 hK6
                    go_wp2
                    go_roundg (n - (k + 1))
                    case measure => omega
                    case rel => exact ⟨k + 1, upd qf k tb, jf2, rfl, by omega, by go_num, by rw [HRS.out]; rfl, HS7.out, HK7.out⟩
                · have HSF : Hid (StR wd B n (k + 1) (k + 1) (k + 1) (k + 1) (k + 1) (k + 1) (k + 1) m old keep b.TV (upd qf k tb) jf2) := HS4.out.stayP (by unfold PL.oldP; rw [if_neg (fun h => hin ⟨h.2.1, h.2.2.1⟩)])
                  have hcase : (decide ((0 : Int) < (k : Int)) = false ∧ decide (0 < k) = false ∧ k = 0) ∨ (decide ((0 : Int) < (k : Int)) = true ∧ decide (0 < k) = true ∧ 0 < k ∧ decide (3 * (k : Int) + 2 < (old.length : Int)) = false) := by
                    by_cases h0 : k = 0
                    · left; simp [h0]
                    · right; refine ⟨by simp; omega, by simp; omega, by omega, by simp; omega⟩
                  clear hin
                  rcases hcase with ⟨g1, g2, g3⟩ | ⟨g1, g2, g3, g4⟩
                  · have HG3 : Hid (k = 0) := g3
                    clear g3
                    go_wp2
                    go_roundg (n - (k + 1))
                    case measure => omega
                    case rel => exact ⟨k + 1, upd qf k tb, jf2, rfl, by omega, by go_num, by rw [HRS.out]; rfl, HSF.out, HK4.out⟩
                  · go_wp2
                    go_roundg (n - (k + 1))
                    case measure => omega
                    case rel => exact ⟨k + 1, upd qf k tb, jf2, rfl, by omega, by go_num, by rw [HRS.out]; rfl, HSF.out, HK4.out⟩
    · have e : n = k := by omega
      subst e
      have hKw : Kp B [] w wr := hK1.trans (hKr.mono (by omega) (fun q h1 h2 => by simp at h2; omega))
      have hMr := HA.out.kp (by rw [HB.out]; exact hKw)
      have c5 := (hbox.kp hKr (by omega) (by simp)).cell (i := 5) rfl
      have hszr : B + 8 ≤ wr.heap.size := by rw [← HS1.out]; exact hKr.size
      have hNI : NewIn wr n names m.S (fun k => PL.tg m.J k) jf m.ls (tab n fun k => (PL.oldP n m old keep k).via) (tab n fun k => (PL.oldP n m old keep k).prev) (tab n fun k => (PL.oldP n m old keep k).hops) (tab n (PL.numB m keep)) nmb (B + 1) (B + 2) (B + 3) b.lb (B + 4) (B + 5) (B + 6) (B + 7)
          (tab n fun i => b.TV[i]?.getD (.slice none 0 0)) (tab n fun i => slc (qf i) (PL.tg m.S.T i).length) (tab n fun i => jval (jf i) (PL.tg m.J i).length) := by
        refine ⟨HN.out.kp hKw (by rw [← HB.out]; exact HN.out.lt) (by simp), HM.out.nl, ?_, tab_len _ _, fun k v hv => ?_, ?_, tab_len _ _, fun k v hv => ?_, ?_, fun k hk => tab_at _ _ _ hk, fun k hk => hS.j0 k hk, fun k g hk hg => (hS.j1 k g hk hg).2, hMr.lst, HM.out.ll, ?_, tab_len _ _, ?_, tab_len _ _, ?_, tab_len _ _, ?_, tab_len _ _⟩
        · have := hS.lt; rw [tab_full] at this; exact this
        · have hk : k < n := by have := (List.getElem?_eq_some_iff.1 hv).1; rw [tab_len] at this; exact this
          rw [tab_at _ _ _ hk] at hv
          have hk2 : k < b.TV.length := by rw [hMr.tg.len]; exact hk
          rw [List.getElem?_eq_getElem hk2, Option.getD_some, Option.some.injEq] at hv
          exact ⟨b.base, hMr.tg.own k v (by rw [List.getElem?_eq_getElem hk2, hv])⟩
        · have := hS.lq; rw [tab_full] at this; exact this
        · have hk : k < n := by have := (List.getElem?_eq_some_iff.1 hv).1; rw [tab_len] at this; exact this
          rw [tab_at _ _ _ hk, Option.some.injEq] at hv
          exact ⟨qf k, hv.symm, (hS.q1 k hk).2⟩
        · have := hS.lj; rw [tab_full] at this; exact this
        · have := hS.vi; rw [tab_full] at this; exact this
        · have := hS.pr; rw [tab_full] at this; exact this
        · have := hS.ho; rw [tab_full] at this; exact this
        · have := hS.nu; rw [tab_full] at this; exact this
      have hrc := PL.relC_le m keep n
      have hnew := new_any wr n names m.S (fun k => PL.tg m.J k) jf m.ls _ _ _ _ nmb (B + 1) (B + 2) (B + 3) b.lb (B + 4) (B + 5) (B + 6) (B + 7) (PL.relC m keep n) _ _ _ hn0 hn (by omega) (PL.apart_of HM.out.ranked HM.out.nl) HSZ.out HM.out.inv hNI
      have HJ : Hid ((∀ i g, i < n → jf i = some g → B + 8 ≤ g ∧ g < wr.heap.size) ∧ (∀ i j g, i < n → j < n → jf i = some g → jf j = some g → i = j)) := ⟨fun i g hi hg => ⟨(hS.j1 i g hi hg).1, (hS.j1 i g hi hg).2.lt⟩, hS.ji⟩
      unfold slc at hnew
      clear hNI hS hMr hmk23 hmk28 hmk30
      go_wp2_with fail
      refine hnew.mono ?_
      rintro e w' ⟨p, b', rfl, hP, hK', hbj, hpc, hnx, hqu, hp, hnb', hmb', hpb', e1, e2, e3, e4, hlk⟩
      have HR : Hid (∃ (p' : Nat) (b' : PB), Ending.returned (.pointer (some ⟨p, 0, none⟩)) = .returned (.pointer (some ⟨p', 0, none⟩)) ∧ PsAt w' p' n (pdState n names m old keep) b' ∧ Kp w.heap.size [] w w' ∧ PFr w.heap.size p' n b') := by
        refine ⟨p, b', rfl, hP, ?_, ?_⟩
        · rw [HB.out]; exact hKw.trans (hK'.mono (by omega) (by simp))
        · rw [HB.out]
          refine ⟨hpc, hnx, hqu, by omega, by omega, by omega, by omega, e1, e2, e3, e4, fun k g hk hg => ?_, fun k g hk hg => ?_, fun i j g hi hj h1 h2 => ?_, fun i j g g' hi hj h1 h2 => ?_⟩
          · have := hlk k g hk hg
            exact ⟨by omega, this.2⟩
          · rw [hbj] at hg
            have := HJ.out.1 k g hk hg
            exact ⟨by omega, by omega, by omega, by omega, by omega⟩
          · rw [hbj] at h1 h2
            exact HJ.out.2 i j g hi hj h1 h2
          · rw [hbj] at h1
            have h3 := HJ.out.1 i g hi h1
            have h4 := hlk j g' hj h2
            omega
      clear hnew hP hK' hbj hpc hnx hqu hp hnb' hmb' hpb' e1 e2 e3 e4 hlk HJ
      go_wp2
      go_ret
      exact HR.out
end Go.Proofs.Qxb6600010a
