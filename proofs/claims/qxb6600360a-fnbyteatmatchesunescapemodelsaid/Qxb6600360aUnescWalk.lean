import Derived.Test.Qxb6600360aState
import Derived.Test.Qxb6600360aByteAt
import Derived.Test.Qxb6600360aUnesc
import Derived.WalkKit
import Derived.WalkSpells
import Derived.WalkLawsBesides
import Derived.Deep.LoopGhost
namespace Go.Proofs.Qxb6600360a
open Go.RowKit
set_option linter.unusedSimpArgs false
set_option linter.unusedVariables false

/-- The loop's state: out has been gathered, the rest is still to come. -/
structure Run (w : World) (t : ByteArray) (f j : Nat) (pd : Bool) (out : List UInt8) (wr : World) (g cap : Nat) : Prop where
  own : wr.ownsRow w.heap.size 5 1 (.slice (some ⟨g, 0, none⟩) out.length cap) out.length (out.map vB)
  sum : out ++ PL.rest t.data.toList j pd = PL.unesc (t.data.toList.drop f)
  pnd : pd = true → j < t.size
  len : out.length ≤ j
  bel : Below w.heap.size w wr

theorem run_add {w wr w1 w2 : World} {t : ByteArray} {f j : Nat} {pd : Bool} {out : List UInt8} {g cap g' cap' : Nat} {c : UInt8} (h : Run w t f j pd out wr g cap) (hb : Below wr.heap.size wr w1)
    (hown : w2.ownsRow w.heap.size 5 1 (.slice (some ⟨g', 0, none⟩) (out.length + 1) cap') (out.length + 1) (out.map vB ++ [vB c])) (hg : w1.grownBy w2 (Value.ownBlock (.slice (some ⟨g, 0, none⟩) out.length cap)))
    (hr : PL.rest t.data.toList j pd = c :: PL.rest t.data.toList (j + 1) false) : Run w t f (j + 1) false (out ++ [c]) w2 g' cap' := by
  have hgb := (owns_block h.own g rfl).1
  refine ⟨by simpa using hown, ?_, by simp, by have := h.len; simp; omega, ?_⟩
  · rw [← h.sum, hr]; simp
  · have h1 : Below w.heap.size w w1 := h.bel.trans (hb.mono (by have := h.bel.size; omega))
    exact h1.grown hg (by have := h1.size; omega) (fun k hk => by simp [Value.ownBlock] at hk; omega)

set_option maxHeartbeats 1000000 in
set_option maxRecDepth 100000 in
theorem unesc_any (t : ByteArray) (f : Nat) (w : World) (hs : t.size ≤ 4000000) (hf : f ≤ t.size) :
    Calls Try.prog 12 #[.string t, .int .i64 f] w fun e w' => ∃ g cap, e = .returned (.slice (some ⟨g, 0, none⟩) (PL.unesc (t.data.toList.drop f)).length cap) ∧
      w'.ownsRow w.heap.size 5 1 (.slice (some ⟨g, 0, none⟩) (PL.unesc (t.data.toList.drop f)).length cap) (PL.unesc (t.data.toList.drop f)).length ((PL.unesc (t.data.toList.drop f)).map vB) ∧ Below w.heap.size w w' := by
  obtain ⟨i5, hi5, hz50, hz51, hz52⟩ := info_parts Try.info5
  go_enter Try.func12, Try.ntmps12
  go_wp2_with (at_make; refine wpList_make_own _ rfl _ _ 26 rfl w.heap.size 5 i5 (.int .u8 0) 1 Try.underlying26 hi5 hz50 hz51 _ _ _ (t.size - f) rfl rfl (by omega) (by rw [hz52]; omega) (by unfold maxLen; omega) (by omega) ?_; intro w1 hown hgrow)
  have hR : Run w t f f false [] w1 w.heap.size (t.size - f) := ⟨hown, by simp [PL.rest], by simp, by simp, (Below.refl _ _).grown hgrow (by omega) (by simp)⟩
  clear hown hgrow
  go_loopg [5, 6, 7] (t.size - f) (fun k v pd j wr => ∃ jn pb out g cap, k = t.size - jn ∧ jn ≤ t.size ∧ v = .slice (some ⟨g, 0, none⟩) out.length cap ∧ pd = .bool pb ∧ j = .int .i64 (jn : Nat) ∧ Run w t f jn pb out wr g cap)
  case atStart => exact ⟨f, false, [], w.heap.size, t.size - f, rfl, hf, rfl, rfl, rfl, hR⟩
  case round =>
    clear hR
    obtain ⟨j, pb, out, g, cap, rfl, hj, rfl, rfl, rfl, hR⟩ := hrel
    have hlen := hR.len
    by_cases hlt : j < t.size
    · have hcj : t.data.toList[j]?.getD 0 = t[j] := by simp [hlt]; rfl
      have HJ : Hid (t.data.toList[j]?.getD 0 = t[j]) := hcj
      clear hcj
      cases pb with
      | true =>
        go_wp2_with (at_builtin; refine wpList_append_lies _ rfl _ _ 26 rfl w.heap.size 5 i5 (.int .u8 0) 1 1 Try.underlying26 hi5 hz50 hz51 hz52 rfl (by decide) (.slice (some ⟨g, 0, none⟩) out.length cap) out.length _ rfl (by exact hR.own.alloc _) ⟨wr.heap.size, 0, none⟩ 1 1 [.int .u8 t[j].toNat] rfl rfl (one_at (by simp)) (by simp [Value.oneCell']) (by omega) (by unfold maxLen; omega) (by omega) (by have := hR.bel.size; simp; omega) (wr.heap.size + 1) (by simp) ?_; intro g3 cap3 w1 hown hgrow hat hlt1)
        have R := run_add (c := t[j]) hR ((Below.refl _ _).alloc (Nat.le_refl _) _) hown hgrow (by rw [PL.rest_pend, HJ.out])
        clear hown hgrow
        go_wp2
        go_roundg (t.size - (j + 1))
        case measure => omega
        case rel => exact ⟨j + 1, false, out ++ [t[j]], g3, cap3, rfl, by omega, by simp, rfl, by go_num, R⟩
      | false =>
        by_cases hc : t[j] = 92 ∧ j + 1 < t.size
        · have hcb : ((t[j].toNat : Int) == 92) = true := by rw [hc.1]; rfl
          have hj1 := hc.2
          have R : Run w t f (j + 1) true out wr g cap := ⟨hR.own, by rw [← hR.sum, PL.rest_esc _ _ (by rw [HJ.out]; exact hc.1) (by simpa using hc.2)], fun _ => hj1, by omega, hR.bel⟩
          clear hc
          go_wp2
          go_roundg (t.size - (j + 1))
          case measure => omega
          case rel => exact ⟨j + 1, true, out, g, cap, rfl, by omega, rfl, rfl, by go_num, R⟩
        · have hk : PL.rest t.data.toList j false = t[j] :: PL.rest t.data.toList (j + 1) false := by
            rw [PL.rest_keep _ _ (by simpa using hlt) (by rw [HJ.out]; simpa using hc), HJ.out]
          have HK : Hid (PL.rest t.data.toList j false = t[j] :: PL.rest t.data.toList (j + 1) false) := hk
          clear hk
          by_cases h92 : t[j] = 92
          · have hcb : ((t[j].toNat : Int) == 92) = true := by rw [h92]; rfl
            have hj1 : ¬ j + 1 < t.size := fun e => hc ⟨h92, e⟩
            have hj2 : decide ((j : Int) + 1 < (t.size : Int)) = false := by simp; omega
            clear hc h92
            go_wp2_with (at_builtin; refine wpList_append_lies _ rfl _ _ 26 rfl w.heap.size 5 i5 (.int .u8 0) 1 1 Try.underlying26 hi5 hz50 hz51 hz52 rfl (by decide) (.slice (some ⟨g, 0, none⟩) out.length cap) out.length _ rfl (by exact hR.own.alloc _) ⟨wr.heap.size, 0, none⟩ 1 1 [.int .u8 t[j].toNat] rfl rfl (one_at (by simp)) (by simp [Value.oneCell']) (by omega) (by unfold maxLen; omega) (by omega) (by have := hR.bel.size; simp; omega) (wr.heap.size + 1) (by simp) ?_; intro g3 cap3 w1 hown hgrow hat hlt1)
            have R := run_add (c := t[j]) hR ((Below.refl _ _).alloc (Nat.le_refl _) _) hown hgrow HK.out
            clear hown hgrow
            go_wp2
            go_roundg (t.size - (j + 1))
            case measure => omega
            case rel => exact ⟨j + 1, false, out ++ [t[j]], g3, cap3, rfl, by omega, by simp, rfl, by go_num, R⟩
          · have hcb : ((t[j].toNat : Int) == 92) = false := by
              rw [beq_eq_false_iff_ne]; intro e; apply h92; apply UInt8.toNat_inj.1; simp; omega
            clear hc h92
            go_wp2_with (at_builtin; refine wpList_append_lies _ rfl _ _ 26 rfl w.heap.size 5 i5 (.int .u8 0) 1 1 Try.underlying26 hi5 hz50 hz51 hz52 rfl (by decide) (.slice (some ⟨g, 0, none⟩) out.length cap) out.length _ rfl (by exact hR.own.alloc _) ⟨wr.heap.size, 0, none⟩ 1 1 [.int .u8 t[j].toNat] rfl rfl (one_at (by simp)) (by simp [Value.oneCell']) (by omega) (by unfold maxLen; omega) (by omega) (by have := hR.bel.size; simp; omega) (wr.heap.size + 1) (by simp) ?_; intro g3 cap3 w1 hown hgrow hat hlt1)
            have R := run_add (c := t[j]) hR ((Below.refl _ _).alloc (Nat.le_refl _) _) hown hgrow HK.out
            clear hown hgrow
            go_wp2
            go_roundg (t.size - (j + 1))
            case measure => omega
            case rel => exact ⟨j + 1, false, out ++ [t[j]], g3, cap3, rfl, by omega, by simp, rfl, by go_num, R⟩
    · have hje : j = t.size := by omega
      have hpb : pb = false := by cases pb with | false => rfl | true => exact absurd (hR.pnd rfl) hlt
      subst hpb
      have hout : PL.unesc (t.data.toList.drop f) = out := by
        rw [← hR.sum, hje]
        have : t.size = t.data.toList.length := by simp
        rw [this, PL.rest_end]; simp
      have HO : Hid (PL.unesc (t.data.toList.drop f) = out) := hout
      clear hout hje
      go_wp2
      go_ret
      rw [HO.out]
      exact ⟨g, cap, rfl, hR.own, hR.bel⟩
end Go.Proofs.Qxb6600360a
