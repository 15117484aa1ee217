/-
  THE LAW FnByteAtUndoesEscaping: the walk and the row.
-/
import Derived.Test.Qxb6600360aCalls
import Derived.Test.Qxb6600360aConv
import Derived.WalkKit
import Derived.WalkSpells
import Derived.WalkLawsBesides
import Derived.Deep.LoopGhost
import Derived.Deep.DeepCutAuto
import Derived.Deep.Grids
import Derived.ProofKit
import Derived.OpenShut
import Derived.ShutString
import Derived.ChangeOld
import Derived.Below
namespace Go.Proofs.Qxb6600360a.fnByteAtUndoesEscaping
open Go.ChangeShapes Go.WideShapes Go.ChangeAt Go.RowKit Go.Deep
open Go.ChangeMaps (open_string shut_string)
set_option linter.unusedSimpArgs false
set_option linter.unusedVariables false

theorem info4 : (Try.prog.info? 4).map (fun i => (i.zero, i.size, i.bytes)) = some (some (.bool false), 1, 1) := by kernel_rfl

theorem app_list (p : ByteArray) (E : List UInt8) : (p ++ (⟨E.toArray⟩ : ByteArray)).data.toList = p.data.toList ++ E := by simp
theorem app_size (p : ByteArray) (E : List UInt8) : (p ++ (⟨E.toArray⟩ : ByteArray)).size = p.size + E.length := by
  rw [ByteArray.size_append]; rfl

/-- The mask as the loop reads it. -/
def MaskAt (w : World) (mo : Option Addr) (ml : Nat) (bs : Nat → Bool) : Prop :=
  ml = 0 ∨ ∃ b, mo = some ⟨b, 0, none⟩ ∧ b < w.heap.size ∧ ∀ i, i < ml → w.cell? ⟨b, i, none⟩ = some (.bool (bs i))

/-- The mask as it came in. -/
def MaskIn (w : World) (mo : Option Addr) (ml mc : Nat) (bs : Nat → Bool) : Prop :=
  (mo = none ∧ ml = 0 ∧ mc = 0) ∨ ∃ x, mo = some x ∧ (0 < ml → ∃ b o, x = ⟨b, o, none⟩ ∧ b < w.heap.size ∧ ∀ i, i < ml → w.cell? ⟨b, o + i, none⟩ = some (.bool (bs i)))

/-- The copy of the mask, j cells done. -/
def part (bs : Nat → Bool) (ml j : Nat) : List Value := (List.range ml).map fun i => if i < j then .bool (bs i) else .bool false

theorem part_zero (bs : Nat → Bool) (ml : Nat) : part bs ml 0 = List.replicate ml (.bool false) := by
  apply List.ext_getElem <;> simp [part]
theorem part_set (bs : Nat → Bool) (ml j : Nat) : (part bs ml j).set j (.bool (bs j)) = part bs ml (j + 1) := by
  apply List.ext_getElem
  · simp [part]
  · intro i h1 h2
    simp only [part, List.getElem_set, List.getElem_map, List.getElem_range]
    by_cases e : j = i
    · subst e; simp
    · rw [if_neg e]
      by_cases h : i < j
      · rw [if_pos h, if_pos (by omega)]
      · rw [if_neg h, if_neg (by omega)]
theorem part_at (bs : Nat → Bool) (ml i : Nat) (h : i < ml) : (part bs ml ml)[i]? = some (.bool (bs i)) := by simp [part, h]

/-- L has been written. -/
structure Own (w : World) (L : List UInt8) (wr : World) (g cap : Nat) : Prop where
  own : wr.ownsRow w.heap.size 5 1 (.slice (some ⟨g, 0, none⟩) L.length cap) L.length (L.map vB)
  bel : Below w.heap.size w wr

theorem own_add {w wr w1 w2 : World} {L : List UInt8} {g cap g' cap' : Nat} {c : UInt8} (h : Own w L wr g cap) (hb : Below wr.heap.size wr w1)
    (hown : w2.ownsRow w.heap.size 5 1 (.slice (some ⟨g', 0, none⟩) (L.length + 1) cap') (L.length + 1) (L.map vB ++ [vB c])) (hg : w1.grownBy w2 (Value.ownBlock (.slice (some ⟨g, 0, none⟩) L.length cap))) :
    Own w (L ++ [c]) w2 g' cap' := by
  have hgb := (owns_block h.own g rfl).1
  have h1 : Below w.heap.size w w1 := h.bel.trans (hb.mono (by have := h.bel.size; omega))
  exact ⟨by simpa using hown, h1.grown hg (by have := h1.size; omega) (fun k hk => by simp [Value.ownBlock] at hk; omega)⟩

set_option maxHeartbeats 1000000 in
set_option maxRecDepth 100000 in
theorem walk_good (p a : ByteArray) (mo : Option Addr) (ml mc : Nat) (bs : Nat → Bool) (w : World) (hs : p.size + a.size + ml ≤ 1048576) (hm : MaskIn w mo ml mc bs) :
    Calls Try.prog 6 #[.string p, .string a, .slice mo ml mc] w fun e w' => e = .returned (.bool true) ∧ Below w.heap.size w w' := by
  have c15 := bytes_esc p a mo ml mc w (by unfold maxLen; omega) (by unfold maxLen; omega) (by unfold maxLen; omega)
  have hd : decide (p.size + a.size + ml ≤ 1048576) = true := by simpa using hs
  rw [hd] at c15
  clear hd
  obtain ⟨i4, hi4, hz40, hz41, hz42⟩ := info_parts info4
  obtain ⟨i5, hi5, hz50, hz51, hz52⟩ := info_parts Try.info5
  have hneq := fun (w : World) (a : Option Addr) (n c : Nat) => run_neq_slice_nil_any (P := Try.prog) w 33 4 a n c 0 0 Try.underlying33
  have g1 : decide ((1048576 : Int) < (p.size : Int)) = false := by simp; omega
  have g2 : decide ((1048576 : Int) < (a.size : Int)) = false := by simp; omega
  have g3 : decide ((1048576 : Int) < (ml : Int)) = false := by simp; omega
  go_enter Try.func6, Try.ntmps6
  go_upto_if 47 with (go_at_call 15; refine c15.mono ?_; rintro e w' ⟨rfl, hw⟩; rw [hw]; clear hw)
  clear c15
  go_cut [2] (fun s2 wc => ∃ mo' mc', s2 = .slice mo' ml mc' ∧ MaskAt wc mo' ml bs ∧ Below w.heap.size w wc)
  case first =>
    rcases hm with ⟨rfl, rfl, rfl⟩ | ⟨x, rfl, hx⟩
    · go_wp2
      go_meet
      case rel => exact ⟨none, 0, rfl, .inl rfl, Below.refl _ _⟩
    · go_wp2_with (at_make; refine wpList_make_full _ rfl _ _ 33 rfl w.heap.size 4 i4 (.bool false) 1 Try.underlying33 hi4 hz40 hz41 _ _ _ _ ml rfl rfl rfl rfl (by rw [hz42]; omega) (by unfold maxLen; omega) (by omega) ?_; intro w1 hown hgrow)
      have hR : w1.ownsRow w.heap.size 4 1 (.slice (some ⟨w.heap.size, 0, none⟩) ml ml) ml (part bs ml 0) := by rw [part_zero]; simpa [toList_madeCells_one, Value.cells] using hown
      have hB : Below w.heap.size w w1 := (Below.refl _ _).grown hgrow (by omega) (by simp)
      have HX : Hid (0 < ml → ∃ b o, x = ⟨b, o, none⟩ ∧ b < w.heap.size ∧ ∀ i, i < ml → w.cell? ⟨b, o + i, none⟩ = some (.bool (bs i))) := hx
      clear hown hgrow hx
      go_loopg [8] ml (fun k j wr => ∃ jn : Nat, k = ml - jn ∧ jn ≤ ml ∧ j = .int .i64 jn ∧ wr.ownsRow w.heap.size 4 1 (.slice (some ⟨w.heap.size, 0, none⟩) ml ml) ml (part bs ml jn) ∧ Below w.heap.size w wr)
      case atStart => exact ⟨0, rfl, by omega, rfl, hR, hB⟩
      case round =>
        clear hR hB
        obtain ⟨j, rfl, hj, rfl, hR, hB⟩ := hrel
        by_cases hlt : j < ml
        · obtain ⟨b, o, rfl, hb, hc⟩ := HX.out (by omega)
          have hcell : wr.cell? ⟨b, o + j, none⟩ = some (.bool (bs j)) := (hB.cell (p := ⟨b, o + j, none⟩) hb).trans (hc j hlt)
          have hst : wr.cell? ⟨w.heap.size, j, none⟩ = some (.bool false) := by rw [hR.cellAt j (by omega)]; simp [part, hlt]
          have hfz := hR.frozenAt j
          have hR' := hR.stored j (.bool (bs j))
          rw [part_set] at hR'
          have hB' := hB.setCell (p := ⟨w.heap.size, j, none⟩) (Nat.le_refl _) (.bool (bs j))
          clear hc hR hB
          go_wp2
          go_roundg (ml - (j + 1))
          case measure => omega
          case rel => exact ⟨j + 1, rfl, by omega, by go_num, hR'.1, hB'⟩
        · have e : j = ml := by omega
          subst e
          go_wp2
          go_meet
          case rel => exact ⟨_, _, rfl, .inr ⟨w.heap.size, rfl, (hR.lt _ rfl).2, fun i hi => by rw [hR.cellAt i (by omega), part_at _ _ _ hi]⟩, hB⟩
  case rest =>
    clear hm g1 g2 g3 hneq
    obtain ⟨mo', mc', rfl, hmask, hB⟩ := hcut
    -- what is escaped
    obtain ⟨es, hes⟩ : ∃ es : Nat → Bool, es = fun j => decide (a.data.toList[j]?.getD 0 = 92) || (decide (j < ml) && bs j) := ⟨_, rfl⟩
    have HES : Hid (es = fun j => decide (a.data.toList[j]?.getD 0 = 92) || (decide (j < ml) && bs j)) := hes
    clear hes
    go_wp2_with (at_make; refine wpList_make_own _ rfl _ _ 26 rfl wc.heap.size 5 i5 (.int .u8 0) 1 Try.underlying26 hi5 hz50 hz51 _ _ _ (2 * a.size) rfl rfl (by omega) (by rw [hz52]; omega) (by unfold maxLen; omega) (by omega) ?_; intro w1 hown hgrow)
    have hR : Own wc (PL.encTo a.data.toList es 0) w1 wc.heap.size (2 * a.size) := ⟨hown, (Below.refl _ _).grown hgrow (by omega) (by simp)⟩
    clear hown hgrow
    go_loopg [9, 10] a.size (fun k v j wr => ∃ jn g cap, k = a.size - jn ∧ jn ≤ a.size ∧ v = .slice (some ⟨g, 0, none⟩) (PL.encTo a.data.toList es jn).length cap ∧ j = .int .i64 (jn : Nat) ∧ Own wc (PL.encTo a.data.toList es jn) wr g cap)
    case atStart => exact ⟨0, wc.heap.size, 2 * a.size, rfl, by omega, rfl, rfl, hR⟩
    case round =>
      clear hR
      obtain ⟨j, g, cap, rfl, hj, rfl, rfl, hR⟩ := hrel
      have hlen := PL.encTo_len a.data.toList es j
      by_cases hlt : j < a.size
      · have hcj : a.data.toList[j]?.getD 0 = a[j] := by simp [hlt]; rfl
        have hsucc : PL.encTo a.data.toList es (j + 1) = PL.encTo a.data.toList es j ++ PL.one (es j) a[j] := by rw [PL.encTo, hcj]
        have HS : Hid (PL.encTo a.data.toList es (j + 1) = PL.encTo a.data.toList es j ++ PL.one (es j) a[j]) := hsucc
        have hej : es j = (decide (a[j] = 92) || (decide (j < ml) && bs j)) := by rw [HES.out, ← hcj]
        have HE : Hid (es j = (decide (a[j] = 92) || (decide (j < ml) && bs j))) := hej
        clear hcj hsucc hej
        generalize PL.encTo a.data.toList es j = L at *
        generalize es j = eb at *
        go_upto_region 19 with fail
        go_cut [91] (fun b wx => b = .bool eb ∧ wr = wx)
        case first =>
          by_cases h92 : a[j] = 92
          · have hcb : ((a[j].toNat : Int) == 92) = true := by rw [h92]; rfl
            have e : eb = true := by rw [HE.out]; simp [h92]
            subst e
            clear h92 HE HS
            go_wp2
            go_meet
            case rel => exact ⟨rfl, rfl⟩
          · have hcb : ((a[j].toNat : Int) == 92) = false := by
              rw [beq_eq_false_iff_ne]; intro e; apply h92; apply UInt8.toNat_inj.1; simp; omega
            by_cases hjm : j < ml
            · have e : eb = bs j := by rw [HE.out]; simp [h92, hjm]
              subst e
              rcases hmask with h0 | ⟨mb, rfl, hmb, hmc⟩
              · omega
              · have hcell := (hR.bel.cell (p := ⟨mb, j, none⟩) hmb).trans (hmc j hjm)
                clear h92 HE HS hmc
                go_wp2
                go_meet
                case rel => exact ⟨rfl, rfl⟩
            · have hjd : decide (j < ml) = false := by simp; omega
              have hjd2 : decide ((j : Int) < (ml : Int)) = false := by simp; omega
              have e : eb = false := by rw [HE.out]; simp [h92, hjm]
              subst e
              clear h92 HE HS hjm
              go_wp2
              go_meet
              case rel => exact ⟨rfl, rfl⟩
        case rest =>
          obtain ⟨rfl, rfl⟩ := hcut
          clear HE
          have hbs := hR.bel.size
          cases eb with
          | true =>
            go_wp2_with (first | (at_builtin; refine wpList_append_lies _ rfl (.tmp 92) (.tmp 93) 26 rfl wc.heap.size 5 i5 (.int .u8 0) 1 1 Try.underlying26 hi5 hz50 hz51 hz52 rfl (by decide) (.slice (some ⟨g, 0, none⟩) L.length cap) L.length _ rfl (by exact hR.own.alloc _) ⟨wr.heap.size, 0, none⟩ 1 1 [.int .u8 92] rfl rfl (one_at (by simp)) (by simp [Value.oneCell']) (by omega) (by unfold maxLen; omega) (by omega) (by simp; omega) (wr.heap.size + 1) (by simp) ?_; intro g3 cap3 w1 hown hgrow hat hlt1; have hR2 := own_add (c := 92) hR ((Below.refl _ _).alloc (Nat.le_refl _) _) hown hgrow; have hbs2 := hR2.bel.size; have hl2 : (L ++ [92]).length = L.length + 1 := List.length_append; have hR3 := hR2.own; rw [hl2] at hR3; clear hown hgrow hat hl2) | (at_builtin; refine wpList_append_lies _ rfl (.tmp 95) (.tmp 97) 26 rfl wc.heap.size 5 i5 (.int .u8 0) 1 1 Try.underlying26 hi5 hz50 hz51 hz52 rfl (by decide) (.slice (some ⟨g3, 0, none⟩) (L.length + 1) cap3) (L.length + 1) _ rfl (by exact hR3.alloc _) ⟨w1.heap.size, 0, none⟩ 1 1 [.int .u8 a[j].toNat] rfl rfl (one_at (by simp)) (by simp [Value.oneCell']) (by omega) (by unfold maxLen; omega) (by omega) (by simp; omega) (w1.heap.size + 1) (by simp) ?_; intro g4 cap4 w2 hown hgrow hat hlt2))
            have R := own_add (c := a[j]) hR2 ((Below.refl _ _).alloc (Nat.le_refl _) _) (by simpa [vB] using hown) (by simpa using hgrow)
            have e : L ++ [92] ++ [a[j]] = PL.encTo a.data.toList es (j + 1) := by rw [HS.out]; simp [PL.one]
            have hl : L.length + 1 + 1 = (PL.encTo a.data.toList es (j + 1)).length := by rw [← e]; simp
            rw [e] at R
            have HL : Hid (L.length + 1 + 1 = (PL.encTo a.data.toList es (j + 1)).length) := hl
            clear hown hgrow hl e
            go_wp2
            go_roundg (a.size - (j + 1))
            case measure => omega
            case rel => exact ⟨j + 1, g4, cap4, rfl, by omega, by rw [← HL.out], by go_num, R⟩
          | false =>
            go_wp2_with (at_builtin; refine wpList_append_lies _ rfl (.tmp 95) (.tmp 97) 26 rfl wc.heap.size 5 i5 (.int .u8 0) 1 1 Try.underlying26 hi5 hz50 hz51 hz52 rfl (by decide) (.slice (some ⟨g, 0, none⟩) L.length cap) L.length _ rfl (by exact hR.own.alloc _) ⟨wr.heap.size, 0, none⟩ 1 1 [.int .u8 a[j].toNat] rfl rfl (one_at (by simp)) (by simp [Value.oneCell']) (by omega) (by unfold maxLen; omega) (by omega) (by simp; omega) (wr.heap.size + 1) (by simp) ?_; intro g4 cap4 w2 hown hgrow hat hlt2)
            have R := own_add (c := a[j]) hR ((Below.refl _ _).alloc (Nat.le_refl _) _) hown hgrow
            have e : L ++ [a[j]] = PL.encTo a.data.toList es (j + 1) := by rw [HS.out]; simp [PL.one]
            have hl : L.length + 1 = (PL.encTo a.data.toList es (j + 1)).length := by rw [← e]; simp
            rw [e] at R
            have HL : Hid (L.length + 1 = (PL.encTo a.data.toList es (j + 1)).length) := hl
            clear hown hgrow hl e
            go_wp2
            go_roundg (a.size - (j + 1))
            case measure => omega
            case rel => exact ⟨j + 1, g4, cap4, rfl, by omega, by rw [← HL.out], by go_num, R⟩
      · have hje : j = a.data.toList.length := by simp; omega
        have hgood : PL.Good a.data.toList es := fun i hi e => by rw [HES.out]; simp only [e, decide_true, Bool.true_or]
        have hB' := hB.trans (hR.bel.mono (by have := hB.size; omega))
        have hconv := run_str hR.own rfl
        rw [hje] at hconv hR hlen ⊢
        have hlast : Hid (PL.Good a.data.toList es) := hgood
        clear hgood HES hmask hB hj hlt hje
        generalize hE : PL.encTo a.data.toList es a.data.toList.length = E at *
        have HE : Hid (PL.encTo a.data.toList es a.data.toList.length = E) := hE
        clear hE
        have hEl : E.length ≤ 2 * a.size := by simpa using hlen
        have hadd : ∀ W : World, (Op.stringOp .add p (⟨E.toArray⟩ : ByteArray)).run Try.prog W = .ok (.string (p ++ ⟨E.toArray⟩)) W := fun W => run_string_add_sum W p ⟨E.toArray⟩ (by
          have : (⟨E.toArray⟩ : ByteArray).size = E.length := by simp [ByteArray.size]
          omega)
        clear hR hlen
        go_wp2_with fail
        obtain ⟨T, hT⟩ : ∃ T : ByteArray, T = p ++ ⟨E.toArray⟩ := ⟨_, rfl⟩
        rw [← hT]
        have hTs : T.size = p.size + E.length := by rw [hT]; exact app_size p E
        have hTl : T.data.toList = p.data.toList ++ E := by rw [hT]; exact app_list p E
        clear hconv hadd hT
        refine (zznew_any T p.size wr).mono ?_
        rintro e W2 ⟨rfl, rfl⟩
        have hM := mid_new T p.size wr
        have hB2 : Below w.heap.size w (wr.alloc (.cells #[.string T, .int .i64 (p.size : Nat), .slice none 0 0, .slice none 0 0] 38)) := hB'.alloc hB'.size _
        have hbase := hB'.size
        generalize wr.alloc (.cells #[.string T, .int .i64 (p.size : Nat), .slice none 0 0, .slice none 0 0] 38) = W2 at *
        obtain ⟨A, hA⟩ : ∃ A, wr.heap.size = A := ⟨_, rfl⟩
        rw [hA] at hM hbase ⊢
        -- the reading of what was written
        have hpl : p.size = p.data.toList.length := by simp
        have hread : ∀ n, n ≤ a.size → PL.Can T.data.toList p.size n := fun n hn => by
          rw [hTl, hpl, ← HE.out]; exact (PL.read_back p.data.toList a.data.toList es hlast.out n (by simpa using hn)).1
        have hbyte : ∀ n (h : n < a.size), PL.bt T.data.toList p.size n = a[n] := fun n hn => by
          rw [hTl, hpl, ← HE.out, PL.read_byte p.data.toList a.data.toList es hlast.out n (by simpa using hn)]; simp [hn]; rfl
        have hend : PL.ps T.data.toList p.size a.size = T.size := by
          have : a.size = a.data.toList.length := by simp
          rw [this, hTl, hpl, ← HE.out, PL.read_end p.data.toList a.data.toList es hlast.out]
          rw [hTs, ← HE.out]; simp
        have hps : p.size ≤ T.size := by omega
        have hTb : T.size ≤ 4000000 := by omega
        have HR : Hid (∀ n, n ≤ a.size → PL.Can T.data.toList p.size n) := hread
        have HBY : Hid (∀ n (h : n < a.size), PL.bt T.data.toList p.size n = a[n]) := hbyte
        have HEND : Hid (PL.ps T.data.toList p.size a.size = T.size) := hend
        have HM : Hid (Mid A T p.size 0 0 W2 (.slice none 0 0) (.slice none 0 0)) := hM
        clear hread hbyte hend hTs hTl hpl HE hlast hB' hA hM
        go_wp2_with fail
        go_loopg [14, 15, 16] a.size (fun g k b ok wq => ∃ kn n vb ve, g = a.size - kn ∧ kn ≤ a.size ∧ k = .int .i64 (kn : Nat) ∧ Mid A T p.size n n wq vb ve ∧ Below w.heap.size w wq)
        case atStart => exact ⟨0, 0, _, _, rfl, by omega, rfl, HM.out, hB2⟩
        case round =>
          clear HM hB2
          obtain ⟨k, n, vb, ve, rfl, hk, rfl, hM, hB2⟩ := hrel
          by_cases hlt : k < a.size
          · go_wp2_with fail
            refine (zzat_any A T p.size n k vb ve _ hTb hps hM).mono ?_
            rintro e W3 ⟨n', vb', ve', hnn, hM3, hB3, hfin⟩
            have hB4 := hB2.trans (hB3.mono hbase)
            rcases hfin with ⟨hkn, rfl⟩ | ⟨hkn, hpe, rfl⟩
            · rw [HBY.out k hlt]
              unfold vB
              clear hM hB2 hB3
              go_wp2
              go_roundg (a.size - (k + 1))
              case measure => omega
              case rel => exact ⟨k + 1, n', vb', ve', rfl, by omega, by go_num, hM3, hB4⟩
            · have := HR.out a.size (Nat.le_refl _) n' (by omega)
              rw [hpe] at this
              simp at this
          · have e : k = a.size := by omega
            subst e
            go_wp2_with fail
            refine (zzat_any A T p.size n a.size vb ve _ hTb hps hM).mono ?_
            rintro e W3 ⟨n', vb', ve', hnn, hM3, hB3, hfin⟩
            have hB4 := hB2.trans (hB3.mono hbase)
            rcases hfin with ⟨hkn, rfl⟩ | ⟨hkn, hpe, rfl⟩
            · have := hM3.can a.size hkn
              rw [HEND.out] at this
              simp at this
            · clear hM hB2 hB3 hM3 hpe
              go_wp2
              go_ret
              exact ⟨rfl, hB4⟩

set_option maxHeartbeats 400000 in
set_option maxRecDepth 100000 in
theorem walk (p a : ByteArray) (mo : Option Addr) (ml mc : Nat) (bs : Nat → Bool) (w : World) (w0 : p.size ≤ maxLen) (w1 : a.size ≤ maxLen) (w2 : ml ≤ maxLen) (hm : MaskIn w mo ml mc bs) :
    Calls Try.prog 6 #[.string p, .string a, .slice mo ml mc] w fun e w' => e = .returned (.bool true) ∧ Below w.heap.size w w' := by
  by_cases hs : p.size + a.size + ml ≤ 1048576
  · exact walk_good p a mo ml mc bs w hs hm
  · have c15 := bytes_esc p a mo ml mc w w0 w1 w2
    have hd : decide (p.size + a.size + ml ≤ 1048576) = false := by simpa using hs
    rw [hd] at c15
    clear hd hm
    go_enter Try.func6, Try.ntmps6
    go_wp2_with (go_at_call 15; refine c15.mono ?_; rintro e w' ⟨rfl, hw⟩; rw [hw]; clear hw)
    go_ret
    exact ⟨rfl, Below.refl _ _⟩

theorem own : ownKnob Try.prog.godebug = none := by kernel_rfl
theorem laidOut : laidOutB Try.prog = true := by kernel_rfl

theorem mask_of {w : World} {x : Addr} {ml cap : Nat} {bs : Nat → Bool} (hl : ml ≤ cap) (h : ∀ i, i < cap → w.cell? (x.add i) = some (.bool (bs i))) : MaskIn w (some x) ml cap bs := by
  refine .inr ⟨x, rfl, fun h0 => ?_⟩
  have hx := h 0 (by omega)
  obtain ⟨b, o, sp⟩ := x
  have hsp : sp = none := by
    cases sp with
    | none => rfl
    | some q =>
      simp only [Addr.add, if_true, World.cell?] at hx
      split at hx <;> simp at hx
  subst hsp
  refine ⟨b, o, rfl, ?_, fun i hi => by have := h i (by omega); rwa [Addr.add_lit] at this⟩
  rw [Addr.add_lit] at hx
  exact World.block_lt_of_cell? w _ hx

/-! ### THE ROW's STEP (the guide's frame, in the form with 'Below') -/
set_option maxRecDepth 100000 in
theorem lifted (os : Os) (started : os.Started) (H : Type) (enc : TypeId × Value → H) :
    ReturnsInHanded {} Try.checked os 6 .any (Rows.fnByteAtUndoesEscapingSpec.pre6 enc Try.prog Try.f6 Rows.fnByteAtUndoesEscapingRow.domain false) (Rows.fnByteAtUndoesEscapingSpec.post enc Try.prog Try.f6 false true false false) := by
  refine returnsInHanded_of_change (C := Try.checked) own started (by kernel_rfl) Try.func6
    (ChangeSpec.witness6 (enc := enc) (C := Try.checked) false ⟨#[], #[.string ByteArray.empty, .string ByteArray.empty, .slice none 0 0], []⟩ 8 (by kernel_rfl) (by kernel_rfl) (by kernel_rfl) (by kernel_rfl)) ?_
  intro W base args ds gs before hval0 hW hcnd _
  have hval : ∀ (j : Nat) t v, Try.f6.params[j]? = some t → args[j]? = some v → Value.okWide Try.prog W .any base t v := hval0
  have hW' := hW
  obtain ⟨p, q, hA0, hV, rfl, hfz, hnd⟩ := hW
  have hA : DataW.TrodAll enc Try.prog W 0 (fun _ => true) true Try.f6.params.toList args.toList ds p := hA0
  rw [Try.params6] at hA hval
  obtain ⟨v0, vs0, d0, ds0, p0, q0, hargs, rfl, rfl, h0, r0⟩ := trodAll_cons hA
  obtain ⟨v1, vs1, d1, ds1, p1, q1, rfl, rfl, rfl, h1, r1⟩ := trodAll_cons r0
  obtain ⟨v2, vs2, d2, ds2, p2, q2, rfl, rfl, rfl, h2, r2⟩ := trodAll_cons r1
  obtain ⟨rfl, rfl, rfl⟩ := trodAll_nil r2
  obtain rfl : args = #[v0, v1, v2] := by cases args; simp_all
  obtain ⟨rfl, rfl⟩ := trodVars_none hV
  obtain ⟨a0, rfl, rfl, rfl, w0⟩ := open_string Try.underlying9 (hval 0 9 v0 rfl rfl) h0
  obtain ⟨a1, rfl, rfl, rfl, w1⟩ := open_string Try.underlying9 (hval 1 9 v1 rfl rfl) h1
  obtain ⟨a2, len2, cap2, rfl⟩ := okWide_slice Try.underlying33 (hval 2 33 v2 rfl rfl)
  have k2 := h2
  have lt2 : ∀ x ∈ p2, x.block < W.heap.size := by obtain ⟨m, hm⟩ := k2; exact DataW.trod_lt m _ _ _ hm
  obtain ⟨bs, w2, hl2⟩ : ∃ bs, MaskIn W a2 len2 cap2 bs ∧ len2 ≤ maxLen := by
    obtain ⟨fuel, hf⟩ := h2
    rcases open_bools Try.underlying33 Try.underlying4 (by kernel_rfl) hf with ⟨hcs, _⟩ | ⟨x, l, c, B, hcs, _, hl, hm, _, hcell⟩
    · simp [Value.cells] at hcs
      obtain ⟨rfl, rfl, rfl⟩ := hcs
      exact ⟨fun _ => false, .inl ⟨rfl, rfl, rfl⟩, Nat.zero_le _⟩
    · simp [Value.cells] at hcs
      obtain ⟨rfl, rfl, rfl⟩ := hcs
      exact ⟨B, mask_of hl hcell, Nat.le_trans hl hm⟩
  clear hA0 hval0
  refine (walk a0 a1 a2 len2 cap2 bs W w0 w1 hl2 w2).mono fun e W' ⟨he, bel⟩ => ?_
  subst he
  exact ⟨_, rfl, _, _, _, [], _, [], hW', trodAll_mk1 (shut_bool Try.underlying4 _), (trodAll_cons_mk (shut_string Try.underlying9 w0) (trodAll_cons_mk (shut_string Try.underlying9 w1) (trodAll_cons_mk (Below.trod laidOut (by kernel_rfl) (of_decide_eq_true (by kernel_rfl)) k2 bel lt2) trodAll_mk0))), rfl, bel.frame _, fun h => by cases h⟩

theorem over : Rows.fnByteAtUndoesEscapingRow.holds Try.pinned (OpenSpec.ofChange Rows.fnByteAtUndoesEscapingSpec) :=
  OpenClaim.holds_of_wide 6 Try.f6 rfl rfl rfl rfl rfl rfl rfl ⟨rfl, rfl, rfl, rfl, rfl⟩ rfl rfl rfl rfl rfl (by kernel_rfl) Try.func6 (by kernel_rfl)
    (of_decide_eq_true (by kernel_rfl)) (by unfold Func.isWrapper; first | (rw [if_pos (by decide +kernel)]; kernel_rfl) | (rw [if_neg (by decide +kernel)]; exact ⟨rfl, rfl⟩))
    (fun os started H enc _ => lifted os started H enc)

/-- THE STATEMENT -/
theorem proved : Rows.FnByteAtUndoesEscapingSaid :=
  over
#print axioms proved
end Go.Proofs.Qxb6600360a.fnByteAtUndoesEscaping
