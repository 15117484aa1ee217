/-
  THE WALK of zzListModel.
-/
import Derived.Test.Qxb6600415aCopy
import Derived.WalkKit
import Derived.WalkSpells
import Derived.WalkLawsBesides
import Derived.Deep.LoopGhost
import Derived.Deep.AppendLies
import Derived.Lib.AppendStr
namespace Go.Proofs.Qxb6600415a
open Go.RowKit
set_option linter.unusedVariables false
set_option linter.unusedSimpArgs false

def vB (b : UInt8) : Value := .int .u8 b.toNat

theorem foldl_push : ∀ (l : List UInt8) (acc : ByteArray), (l.map fun b => (b.toNat : Int)).foldl (fun r n => r.push (UInt8.ofNat n.toNat)) acc = ⟨acc.data ++ l.toArray⟩
  | [], acc => by simp
  | b :: l, acc => by
    rw [List.map_cons, List.foldl_cons, foldl_push l]
    simp [ByteArray.push]

theorem run_str {w : World} {base : Nat} {v : Value} {l : List UInt8} (h : w.ownsRow base 5 1 v l.length (l.map vB)) :
    (convert 33 9 v).run Try.prog w = .ok (.string ⟨l.toArray⟩) w := by
  rcases h.2 with ⟨rfl, h0⟩ | ⟨g, cap, cur, hv, _⟩
  · have : l = [] := List.eq_nil_of_length_eq_zero h0
    subst this
    rw [run_convert_bytes_string w 33 9 5 _ _ _ Try.underlying33 Try.underlying5 Try.underlying9]
    simp [Conv.bytesToString]
    rfl
  · subst hv
    rw [run_convert_bytes_string w 33 9 5 _ _ _ Try.underlying33 Try.underlying5 Try.underlying9]
    have hl : l.map vB = (l.map fun b => (b.toNat : Int)).map (Value.int .u8) := by simp [vB]
    have h1 := run_loadCells_list (P := Try.prog) w ⟨g, 0, none⟩ (l.map vB) (h.cells (g := g) rfl)
    rw [List.length_map, hl] at h1
    rw [run_bytesToString w ⟨g, 0, none⟩ _ cap _ h1, foldl_push]
    simp

/-- L has been written. -/
structure Own (w : World) (L : List UInt8) (wr : World) (v : Value) : Prop where
  own : wr.ownsRow w.heap.size 5 1 v L.length (L.map vB)
  bel : Below w.heap.size w wr

theorem own_add {w wr w1 w2 : World} {L M : List UInt8} {v v' : Value} {n : Nat} {xs : List Value} (h : Own w L wr v) (hb : Below wr.heap.size wr w1)
    (hown : w2.ownsRow w.heap.size 5 1 v' n xs) (hg : w1.grownBy w2 v.ownBlock) (hn : n = (L ++ M).length) (hxs : xs = (L ++ M).map vB) : Own w (L ++ M) w2 v' := by
  subst hn hxs
  have h1 : Below w.heap.size w w1 := h.bel.trans (hb.mono (by have := h.bel.size; omega))
  exact ⟨hown, h1.grown hg (by have := h1.size; omega) (fun k hk => (h.own.lt k hk).1)⟩

theorem info5 : (Try.prog.info? 5).map (fun i => (i.zero, i.size, i.bytes)) = some (some (.int .u8 0), 1, 1) := by kernel_rfl

theorem one_at {w : World} {v : Value} {g : Nat} (h : w.cell? ⟨g, 0, none⟩ = some v) : ∀ (j : Nat) (u : Value), [v][j]? = some u → w.cell? ((⟨g, 0, none⟩ : Addr).add j) = some u := by
  intro j u hj
  match j, hj with
  | 0, hj => simp at hj; subst hj; simpa [Addr.add] using h
theorem two_at {w : World} {v v2 : Value} {g : Nat} (h : w.cell? ⟨g, 0, none⟩ = some v) (h2 : w.cell? ⟨g, 1, none⟩ = some v2) : ∀ (j : Nat) (u : Value), [v, v2][j]? = some u → w.cell? ((⟨g, 0, none⟩ : Addr).add j) = some u := by
  intro j u hj
  match j, hj with
  | 0, hj => simp at hj; subst hj; simpa [Addr.add] using h
  | 1, hj => simp at hj; subst hj; simpa [Addr.add] using h2

set_option maxHeartbeats 2000000 in
set_option maxRecDepth 100000 in
theorem model_any (ao : Option Addr) (n c : Nat) (ss : List ByteArray) (conj : ByteArray) (w : World) (h : StrsAt w ao n ss) (hn : n ≤ 65536) (hz : PL.sz (wsOf ss) ≤ 1048576) (hcj : conj.size ≤ 100) :
    Calls Try.prog 11 #[.slice ao n c, .string conj] w fun e w' => e = .returned (.string ⟨(PL.modelTo (wsOf ss) conj.data.toList (wsOf ss).length).toArray⟩) ∧ Below w.heap.size w w' := by
  obtain ⟨i5, hi5, hz50, hz51, hz52⟩ := info_parts info5
  have hl := h.len
  have HS : Hid (StrsAt w ao n ss) := h
  have HLn : Hid (ss.length = n) := hl
  clear h hl
  go_enter Try.func11, Try.ntmps11
  go_wp2
  go_loopg [5, 7] n (fun g v i wr => ∃ j : Nat, g = n - j ∧ j ≤ n ∧ i = .int .i64 j ∧ Own w (PL.modelTo (wsOf ss) conj.data.toList j) wr v)
  case atStart => exact ⟨0, rfl, by omega, rfl, ⟨World.ownsRow_nil _ _ _ _, Below.refl _ _⟩⟩
  case round =>
    obtain ⟨j, rfl, hj, rfl, hO⟩ := hrel
    have hB := hO.bel.size
    have hlenL := PL.modelTo_len (wsOf ss) conj.data.toList j (by rw [wsOf_len, HLn.out]; exact hj)
    have hcl : conj.data.toList.length = conj.size := by simp
    by_cases hlt : j < n
    · have hjl : j < ss.length := by rw [HLn.out]; exact hlt
      have hszj := sz_step ss j hjl
      have hszl := PL.sz_take_le (wsOf ss) (j + 1)
      obtain ⟨b, o, e, hb, hc⟩ := HS.out.at_ (by omega)
      subst e
      have hcell0 := hc j hjl
      have hsucc : PL.modelTo (wsOf ss) conj.data.toList (j + 1) = PL.modelTo (wsOf ss) conj.data.toList j ++ PL.sep conj.data.toList n j ++ ss[j].data.toList := by
        rw [PL.modelTo, wsOf_len, HLn.out]; simp [wsOf, hjl]
      obtain ⟨x, hx⟩ : ∃ x, x = ss[j] := ⟨_, rfl⟩
      rw [← hx] at hcell0 hsucc hszj
      have hxs : x.size ≤ 1048576 := by omega
      have hLs : (PL.modelTo (wsOf ss) conj.data.toList j).length ≤ 10000000 := by
        have h1 : j * (conj.data.toList.length + 2) ≤ 65536 * 102 := Nat.mul_le_mul (by omega) (by omega)
        omega
      have hsepl := PL.sep_len conj.data.toList n j
      have HSU : Hid (PL.modelTo (wsOf ss) conj.data.toList (j + 1) = PL.modelTo (wsOf ss) conj.data.toList j ++ PL.sep conj.data.toList n j ++ x.data.toList) := hsucc
      have hsepb : (PL.sep conj.data.toList n j).length ≤ 102 := by omega
      clear hsucc hc hx hszj hszl hlenL hsepl
      generalize PL.modelTo (wsOf ss) conj.data.toList j = L at *
      obtain ⟨sp, hsp⟩ : ∃ sp, sp = PL.sep conj.data.toList n j := ⟨_, rfl⟩
      rw [← hsp] at hsepb HSU
      have HSP : Hid (sp = PL.sep conj.data.toList n j) := hsp
      clear hsp hcl
      go_upto_if 16 with fail
      go_cut [5] (fun v wc => Own w (L ++ sp) wc v)
      case first =>
        by_cases hj0 : 0 < j
        · by_cases hjn : j = n - 1
          · have hb1 : ((j : Int) == (n : Int) - 1) = true := by rw [beq_iff_eq]; omega
            have hsv : sp = [32] ++ conj.data.toList ++ [32] := by rw [HSP.out]; unfold PL.sep; rw [if_neg (by omega), if_pos hjn]
            have HSV : Hid (sp = [32] ++ conj.data.toList ++ [32]) := hsv
            have hjn2 : ((j : Int) = (n : Int) - 1) := by omega
            have HJ : Hid ((j : Int) = (n : Int) - 1) := hjn2
            clear hjn hsv HSP hjn2
            go_wp2_with (first
              | (at_builtin; refine wpList_append_own _ rfl (.tmp 21) (.tmp 22) 33 rfl w.heap.size 5 i5 (.int .u8 0) 1 1 Try.underlying33 hi5 hz50 hz51 hz52 rfl (by decide) u5 L.length _ rfl (by exact hO.own.alloc _) ⟨wr.heap.size, 0, none⟩ 1 1 [.int .u8 32] rfl rfl (one_at (by simp)) (by simp [Value.oneCell']) (by unfold maxLen; omega) (by omega) (by simp; omega) ?_; intro v1 w1 hown1 hgrow1 _; have O1 := own_add (M := [32]) hO ((Below.refl _ _).alloc (Nat.le_refl _) _) hown1 hgrow1 (by simp) (by simp [vB]); have hB1 := O1.bel.size; clear hown1 hgrow1)
              | (at_builtin; refine Lib.wpList_append_own_string _ rfl (.tmp 24) (.tmp 25) 33 9 rfl w.heap.size 5 i5 Try.underlying33 Try.underlying9 hi5 hz50 hz51 hz52 v1 (L ++ [32]).length _ rfl O1.own conj rfl (by simp; unfold maxLen; omega) (by simp; omega) (by omega) ?_; intro v2 w2 hown2 hgrow2 _; have O2 := own_add (M := conj.data.toList) O1 (Below.refl _ _) hown2 hgrow2 (by simp; omega) (by simp [vB, Lib.strCells]); have hB2 := O2.bel.size; clear hown2 hgrow2)
              | (at_builtin; refine wpList_append_own _ rfl (.tmp 27) (.tmp 28) 33 rfl w.heap.size 5 i5 (.int .u8 0) 1 1 Try.underlying33 hi5 hz50 hz51 hz52 rfl (by decide) v2 (L ++ [32] ++ conj.data.toList).length _ rfl (by exact O2.own.alloc _) ⟨w2.heap.size, 0, none⟩ 1 1 [.int .u8 32] rfl rfl (one_at (by simp)) (by simp [Value.oneCell']) (by simp; unfold maxLen; omega) (by simp; omega) (by simp; omega) ?_; intro v3 w3 hown3 hgrow3 _; have O3 := own_add (M := [32]) O2 ((Below.refl _ _).alloc (Nat.le_refl _) _) hown3 hgrow3 (by simp; omega) (by simp [vB]); clear hown3 hgrow3))
            go_meet
            case rel => rw [HSV.out]; simpa using O3
          · have hb1 : ((j : Int) == (n : Int) - 1) = false := by rw [beq_eq_false_iff_ne]; omega
            have hsv : sp = [44, 32] := by rw [HSP.out]; unfold PL.sep; rw [if_neg (by omega), if_neg hjn]
            have HSV : Hid (sp = [44, 32]) := hsv
            clear hjn hsv HSP
            go_wp2_with (at_builtin; refine wpList_append_own _ rfl (.tmp 30) (.tmp 31) 33 rfl w.heap.size 5 i5 (.int .u8 0) 1 1 Try.underlying33 hi5 hz50 hz51 hz52 rfl (by decide) u5 L.length _ rfl (by exact hO.own.alloc _) ⟨wr.heap.size, 0, none⟩ 2 2 [.int .u8 44, .int .u8 32] rfl rfl (two_at (by simp) (by simp)) (by simp [Value.oneCell']) (by unfold maxLen; omega) (by omega) (by simp; omega) ?_; intro v1 w1 hown1 hgrow1 _; have O1 := own_add (M := [44, 32]) hO ((Below.refl _ _).alloc (Nat.le_refl _) _) hown1 hgrow1 (by simp) (by simp [vB]); clear hown1 hgrow1)
            go_meet
            case rel => rw [HSV.out]; exact O1
        · have hj1 : j = 0 := by omega
          have hsv : sp = [] := by rw [HSP.out, hj1]; rfl
          subst hsv
          clear HSP
          have hjd : decide ((0 : Int) < (j : Int)) = false := by simp; omega
          go_wp2
          go_meet
          case rel => simpa using hO
      case rest =>
        have O4 := hcut
        clear hcut hO HSP
        have hcell := (O4.bel.cell (p := ⟨b, o + j, none⟩) hb).trans hcell0
        have hBc := O4.bel.size
        have hLS : (L ++ sp).length = L.length + sp.length := List.length_append
        have HLS : Hid ((L ++ sp).length = L.length + sp.length) := hLS
        have hLb : (L ++ sp).length ≤ 10000102 := by omega
        clear hLS hcell0
        generalize L ++ sp = L2 at *
        go_wp2_with (at_builtin; refine Lib.wpList_append_own_string _ rfl (.tmp 33) (.tmp 37) 33 9 rfl w.heap.size 5 i5 Try.underlying33 Try.underlying9 hi5 hz50 hz51 hz52 u5 L2.length _ rfl O4.own x rfl (by unfold maxLen; omega) (by omega) (by omega) ?_; intro v2 w2 hown2 hgrow2 _; have O5 := own_add (M := x.data.toList) O4 (Below.refl _ _) hown2 hgrow2 (by simp) (by simp [vB, Lib.strCells]); clear hown2 hgrow2)
        go_roundg (n - (j + 1))
        case measure => omega
        case rel => exact ⟨j + 1, rfl, by omega, by go_num, by rw [HSU.out]; exact O5⟩
    · have e : j = n := by omega
      subst e
      have hfin : (wsOf ss).length = j := by rw [wsOf_len, HLn.out]
      have hconv := run_str hO.own
      have HF : Hid ((wsOf ss).length = j) := hfin
      clear hfin hlenL
      go_wp2
      go_ret
      rw [HF.out]
      exact ⟨rfl, hO.bel⟩
end Go.Proofs.Qxb6600415a
