/-
  THE WALKS of ZZNewUnescapedAddress, ZZByteAt and of the bound on the lengths of FnByteAtUndoesEscaping.
-/
import Derived.Test.Qxb6600360aByteAt
import Derived.WalkKit
import Derived.WalkSpells
import Derived.WalkLawsBesides
namespace Go.Proofs.Qxb6600360a
open Go.RowKit
set_option linter.unusedVariables false
set_option linter.unusedSimpArgs false

set_option maxHeartbeats 400000 in
set_option maxRecDepth 100000 in
theorem zznew_any (t : ByteArray) (f : Nat) (w : World) :
    Calls Try.prog 13 #[.string t, .int .i64 f] w fun e w' => e = .returned (.pointer (some ⟨w.heap.size, 0, none⟩)) ∧ w' = w.alloc (.cells #[.string t, .int .i64 f, .slice none 0 0, .slice none 0 0] 38) := by
  go_enter Try.func13, Try.ntmps13
  go_wp2
  go_ret
  exact ⟨rfl, rfl⟩

set_option maxHeartbeats 400000 in
set_option maxRecDepth 100000 in
theorem zzat_any (B : Nat) (t : ByteArray) (f n k : Nat) (vb ve : Value) (w : World) (hs : t.size ≤ 4000000) (hf : f ≤ t.size) (h : Mid B t f n n w vb ve) :
    Calls Try.prog 14 #[.pointer (some ⟨B, 0, none⟩), .int .i64 k] w fun e w' => Done B t f n k w e w' := by
  go_enter Try.func14, Try.ntmps14
  go_wp2_with fail
  refine (byteAt_any B t f n k vb ve _ hs hf h).mono ?_
  rintro e w1 ⟨n', vb', ve', hnn, hmid, hbel, ⟨hk, rfl⟩ | ⟨hk, hps, rfl⟩⟩
  · have hfin : Done B t f n k w (.returned (.tuple #[vB (PL.bt t.data.toList f k), .bool true])) w1 := ⟨n', vb', ve', hnn, hmid, hbel, .inl ⟨hk, rfl⟩⟩
    unfold vB at hfin ⊢
    have HF : Hid (Done B t f n k w (.returned (.tuple #[.int .u8 (PL.bt t.data.toList f k).toNat, .bool true])) w1) := hfin
    clear hfin hmid hbel
    go_wp2
    go_ret2
    exact HF.out
  · have hfin : Done B t f n k w (.returned (.tuple #[.int .u8 0, .bool false])) w1 := ⟨n', vb', ve', hnn, hmid, hbel, .inr ⟨hk, hps, rfl⟩⟩
    have HF : Hid (Done B t f n k w (.returned (.tuple #[.int .u8 0, .bool false])) w1) := hfin
    clear hfin hmid hbel hps
    go_wp2
    go_ret2
    exact HF.out

theorem mid_new (t : ByteArray) (f : Nat) (w : World) : Mid w.heap.size t f 0 0 (w.alloc (.cells #[.string t, .int .i64 f, .slice none 0 0, .slice none 0 0] 38)) (.slice none 0 0) (.slice none 0 0) :=
  ⟨fun j hj => by omega, heap_alloc_new w _, World.ownsRow_nil _ _ _ _, World.ownsRow_nil _ _ _ _⟩


set_option maxHeartbeats 400000 in
set_option maxRecDepth 100000 in
theorem bytes_esc (p a : ByteArray) (mo : Option Addr) (ml mc : Nat) (w : World) (h : p.size ≤ maxLen) (h2 : a.size ≤ maxLen) (h3 : ml ≤ maxLen) :
    Calls Try.prog 15 #[.string p, .string a, .slice mo ml mc] w fun e w' => e = .returned (.bool (decide (p.size + a.size + ml ≤ 1048576))) ∧ w' = w := by
  unfold maxLen at h h2 h3
  by_cases hs : p.size + a.size + ml ≤ 1048576
  · have hd : decide (p.size + a.size + ml ≤ 1048576) = true := by simpa using hs
    rw [hd]; clear hd
    go_enter Try.func15, Try.ntmps15
    go_wp2
    go_ret
    exact ⟨rfl, rfl⟩
  · have hd : decide (p.size + a.size + ml ≤ 1048576) = false := by simpa using hs
    rw [hd]; clear hd
    by_cases h4 : p.size ≤ 1048576
    · by_cases h5 : a.size ≤ 1048576
      · by_cases h6 : p.size + a.size ≤ 1048576
        · by_cases h7 : ml ≤ 1048576
          · go_enter Try.func15, Try.ntmps15
            go_wp2
            go_ret
            exact ⟨rfl, rfl⟩
          · go_enter Try.func15, Try.ntmps15
            go_wp2
            go_ret
            exact ⟨rfl, rfl⟩
        · go_enter Try.func15, Try.ntmps15
          go_wp2
          go_ret
          exact ⟨rfl, rfl⟩
      · go_enter Try.func15, Try.ntmps15
        go_wp2
        go_ret
        exact ⟨rfl, rfl⟩
    · go_enter Try.func15, Try.ntmps15
      go_wp2
      go_ret
      exact ⟨rfl, rfl⟩

end Go.Proofs.Qxb6600360a
