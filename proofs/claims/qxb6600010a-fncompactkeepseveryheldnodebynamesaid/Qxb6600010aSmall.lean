/-
  THE WALKS of the small functions: zzMod, the bounds on length, zzBytes, the copies.
-/
import Derived.Test.Qxb6600010aBase
import Derived.WalkSpells
import Derived.WalkLawsBesides
import Derived.Deep.LoopGhost
namespace Go.Proofs.Qxb6600010a
open Go.RowKit
set_option linter.unusedVariables false
set_option linter.unusedSimpArgs false

namespace PL
/-- x modulo n, as a number of a node. -/
def md (x : Int) (n : Nat) : Nat := (x % (n : Int)).toNat
theorem md_lt (x : Int) (n : Nat) (h : 0 < n) : md x n < n := by
  unfold md
  have h1 := Int.emod_nonneg x (show (n : Int) ≠ 0 by omega)
  have h2 := Int.emod_lt_of_pos x (show (0 : Int) < n by omega)
  omega
theorem md_cast (x : Int) (n : Nat) (h : 0 < n) : ((md x n : Nat) : Int) = x % (n : Int) := by
  unfold md
  have h1 := Int.emod_nonneg x (show (n : Int) ≠ 0 by omega)
  omega
theorem tmod_neg (x : Int) (n : Nat) (h : 0 < n) (hr : x.tmod n < 0) : x.tmod n + n = x % (n : Int) := by
  have h1 : x = n * x.tdiv n + x.tmod n := (Int.mul_tdiv_add_tmod x n).symm
  have h2 : -(n : Int) < x.tmod n := by
    have := Int.lt_tmod_of_pos x (show (0 : Int) < n by omega)
    omega
  have h3 : (x.tmod n + n) % (n : Int) = x % (n : Int) := by
    rw [Int.add_emod_right]
    conv => rhs; rw [h1]
    rw [Int.add_emod, Int.mul_emod_right]; simp
  rw [← h3, Int.emod_eq_of_lt (by omega) (by omega)]
theorem tmod_pos (x : Int) (n : Nat) (h : 0 < n) (hr : 0 ≤ x.tmod n) : x.tmod n = x % (n : Int) := by
  have h1 : x = n * x.tdiv n + x.tmod n := (Int.mul_tdiv_add_tmod x n).symm
  have h2 := Int.tmod_lt_of_pos x (show (0 : Int) < n by omega)
  have h3 : (x.tmod n) % (n : Int) = x % (n : Int) := by
    conv => rhs; rw [h1]
    rw [Int.add_emod, Int.mul_emod_right]; simp
  rw [← h3, Int.emod_eq_of_lt hr h2]
end PL

set_option maxHeartbeats 400000 in
set_option maxRecDepth 100000 in
theorem mod_any (x : Int) (n : Nat) (w : World) (hn : 0 < n) (hn2 : n ≤ 1000000) :
    Calls Try.prog 39 #[.int .i64 x, .int .i64 n] w fun e w' => e = .returned (.int .i64 ((PL.md x n : Nat) : Int)) ∧ w' = w := by
  rw [PL.md_cast x n hn]
  have hz : ((n : Int) == 0) = false := by rw [beq_eq_false_iff_ne]; omega
  have h2 : -(n : Int) < x.tmod n := by
    have := Int.lt_tmod_of_pos x (show (0 : Int) < n by omega)
    omega
  have h3 := Int.tmod_lt_of_pos x (show (0 : Int) < n by omega)
  by_cases hr : x.tmod n < 0
  · have HE : Hid (x.tmod n + n = x % (n : Int)) := PL.tmod_neg x n hn hr
    go_enter Try.func39, Try.ntmps39
    go_wp2
    go_ret
    exact ⟨by rw [← HE.out]; rfl, rfl⟩
  · have HE : Hid (x.tmod n = x % (n : Int)) := PL.tmod_pos x n hn (by omega)
    go_enter Try.func39, Try.ntmps39
    go_wp2
    go_ret
    exact ⟨by rw [← HE.out]; rfl, rfl⟩

/-! ### Slices that came in -/
/-- A slice of strings that came in. -/
structure ArgStrs (w : World) (ao : Option Addr) (n : Nat) (ss : List ByteArray) : Prop where
  len : ss.length = n
  at_ : 0 < n → ∃ b o, ao = some ⟨b, o, none⟩ ∧ b < w.heap.size ∧ ∀ i (h : i < ss.length), w.cell? ⟨b, o + i, none⟩ = some (.string ss[i])
/-- A slice of ints that came in. -/
structure ArgInts (w : World) (ao : Option Addr) (n : Nat) (xs : List Int) : Prop where
  len : xs.length = n
  at_ : 0 < n → ∃ b o, ao = some ⟨b, o, none⟩ ∧ b < w.heap.size ∧ ∀ i (h : i < xs.length), w.cell? ⟨b, o + i, none⟩ = some (.int .i64 xs[i])
theorem ArgInts.below {w w' : World} {ao : Option Addr} {n : Nat} {xs : List Int} (h : ArgInts w ao n xs) (hb : Below w.heap.size w w') : ArgInts w' ao n xs :=
  ⟨h.len, fun h0 => by
    obtain ⟨b, o, e, hlt, hc⟩ := h.at_ h0
    exact ⟨b, o, e, Nat.lt_of_lt_of_le hlt hb.size, fun i hi => (hb.cell (p := ⟨b, o + i, none⟩) hlt).trans (hc i hi)⟩⟩

/-- The bytes of all names. -/
def szs (ss : List ByteArray) : Nat := (ss.map ByteArray.size).sum
theorem szs_take_succ (ss : List ByteArray) (j : Nat) (h : j < ss.length) : szs (ss.take (j + 1)) = szs (ss.take j) + ss[j].size := by
  rw [List.take_succ_eq_append_getElem h]; unfold szs; rw [List.map_append, List.sum_append]; simp only [List.map_cons, List.map_nil, List.sum_cons, List.sum_nil, Nat.add_zero]
theorem szs_take_le (ss : List ByteArray) (j : Nat) : szs (ss.take j) ≤ szs ss := by
  have h : szs ss = szs (ss.take j) + szs (ss.drop j) := by
    unfold szs; rw [← List.sum_append, ← List.map_append, List.take_append_drop]
  omega
theorem szs_all (ss : List ByteArray) (n : Nat) (h : ss.length = n) : szs (ss.take n) = szs ss := by rw [← h, List.take_length]
theorem szs_at (ss : List ByteArray) (j : Nat) (h : j < ss.length) : ss[j].size ≤ szs ss := by
  have := szs_take_succ ss j h
  have := szs_take_le ss (j + 1)
  omega

set_option maxHeartbeats 1000000 in
set_option maxRecDepth 100000 in
theorem bound11_any (ao : Option Addr) (n c : Nat) (a1 : Option Addr) (n1 c1 : Nat) (a2 : Option Addr) (n2 c2 : Nat) (a3 : Option Addr) (n3 c3 : Nat) (ss : List ByteArray) (w : World) (hn : n ≤ maxLen) (h1 : n1 ≤ maxLen) (h2 : n2 ≤ maxLen) (h3 : n3 ≤ maxLen) (hs : ∀ (i : Nat) (h : i < ss.length), ss[i].size ≤ maxLen) (h : ArgStrs w ao n ss) :
    Calls Try.prog 11 #[.slice ao n c, .slice a1 n1 c1, .slice a2 n2 c2, .slice a3 n3 c3] w fun e w' => ∃ r : Bool, e = .returned (.bool r) ∧ (r = true → n + szs ss ≤ 1048576) ∧ w = w' := by
  unfold maxLen at hn h1 h2 h3
  by_cases h2 : n ≤ 1048576
  · go_enter Try.func11, Try.ntmps11
    go_wp2
    go_loopg [9, 10] n (fun g z i wr => ∃ j : Nat, g = n - j ∧ j ≤ n ∧ i = .int .i64 j ∧ z = .int .i64 ((n + szs (ss.take j) : Nat) : Int) ∧ n + szs (ss.take j) ≤ 1048576 ∧ wr = w)
    case atStart => exact ⟨0, rfl, by omega, rfl, by simp [szs], by simpa [szs] using h2, rfl⟩
    case round =>
      obtain ⟨j, rfl, hj, rfl, rfl, hle, rfl⟩ := hrel
      by_cases hlt : j < n
      · obtain ⟨bb, o, rfl, hb, hc⟩ := h.at_ (by omega)
        have hjl : j < ss.length := by rw [h.len]; exact hlt
        have hcell := hc j hjl
        have hsj := hs j hjl
        have HST : Hid (szs (ss.take (j + 1)) = szs (ss.take j) + ss[j].size) := szs_take_succ ss j hjl
        unfold maxLen at hsj
        clear hc hs
        obtain ⟨x, hx⟩ : ∃ x, x = ss[j] := ⟨_, rfl⟩
        rw [← hx] at hcell hsj HST
        clear hx
        generalize szs (ss.take j) = q at *
        by_cases h4 : x.size ≤ 1048576
        · by_cases h5 : n + q + x.size ≤ 1048576
          · go_wp2
            go_roundg (n - (j + 1))
            case measure => omega
            case rel => exact ⟨j + 1, rfl, by omega, by go_num, by rw [HST.out]; go_num, by rw [HST.out]; omega, rfl⟩
          · go_wp2
            go_ret
            exact ⟨false, rfl, by simp, rfl⟩
        · go_wp2
          go_ret
          exact ⟨false, rfl, by simp, rfl⟩
      · have e : j = n := by omega
        subst e
        have HF : Hid (j + szs ss ≤ 1048576) := by show j + szs ss ≤ 1048576; rw [szs_all ss j h.len] at hle; exact hle
        clear hs
        generalize szs (ss.take j) = q at *
        go_wp2
        all_goals go_ret
        all_goals first | exact ⟨false, rfl, by simp, rfl⟩ | exact ⟨true, rfl, fun _ => HF.out, rfl⟩
  · clear hs
    go_enter Try.func11, Try.ntmps11
    go_wp2
    go_ret
    exact ⟨false, rfl, by simp, rfl⟩

set_option maxHeartbeats 1000000 in
set_option maxRecDepth 100000 in
theorem bound21_any (ao : Option Addr) (n c : Nat) (a1 : Option Addr) (n1 c1 : Nat) (a2 : Option Addr) (n2 c2 : Nat) (a3 : Option Addr) (n3 c3 : Nat) (ss : List ByteArray) (w : World) (hn : n ≤ maxLen) (h1 : n1 ≤ maxLen) (h2 : n2 ≤ maxLen) (h3 : n3 ≤ maxLen) (hs : ∀ (i : Nat) (h : i < ss.length), ss[i].size ≤ maxLen) (h : ArgStrs w ao n ss) :
    Calls Try.prog 21 #[.slice ao n c, .slice a1 n1 c1, .slice a2 n2 c2, .slice a3 n3 c3] w fun e w' => ∃ r : Bool, e = .returned (.bool r) ∧ (r = true → n + szs ss ≤ 1048576) ∧ w = w' := by
  unfold maxLen at hn h1 h2 h3
  by_cases h2 : n ≤ 1048576
  · go_enter Try.func21, Try.ntmps21
    go_wp2
    go_loopg [9, 10] n (fun g z i wr => ∃ j : Nat, g = n - j ∧ j ≤ n ∧ i = .int .i64 j ∧ z = .int .i64 ((n + szs (ss.take j) : Nat) : Int) ∧ n + szs (ss.take j) ≤ 1048576 ∧ wr = w)
    case atStart => exact ⟨0, rfl, by omega, rfl, by simp [szs], by simpa [szs] using h2, rfl⟩
    case round =>
      obtain ⟨j, rfl, hj, rfl, rfl, hle, rfl⟩ := hrel
      by_cases hlt : j < n
      · obtain ⟨bb, o, rfl, hb, hc⟩ := h.at_ (by omega)
        have hjl : j < ss.length := by rw [h.len]; exact hlt
        have hcell := hc j hjl
        have hsj := hs j hjl
        have HST : Hid (szs (ss.take (j + 1)) = szs (ss.take j) + ss[j].size) := szs_take_succ ss j hjl
        unfold maxLen at hsj
        clear hc hs
        obtain ⟨x, hx⟩ : ∃ x, x = ss[j] := ⟨_, rfl⟩
        rw [← hx] at hcell hsj HST
        clear hx
        generalize szs (ss.take j) = q at *
        by_cases h4 : x.size ≤ 1048576
        · by_cases h5 : n + q + x.size ≤ 1048576
          · go_wp2
            go_roundg (n - (j + 1))
            case measure => omega
            case rel => exact ⟨j + 1, rfl, by omega, by go_num, by rw [HST.out]; go_num, by rw [HST.out]; omega, rfl⟩
          · go_wp2
            go_ret
            exact ⟨false, rfl, by simp, rfl⟩
        · go_wp2
          go_ret
          exact ⟨false, rfl, by simp, rfl⟩
      · have e : j = n := by omega
        subst e
        have HF : Hid (j + szs ss ≤ 1048576) := by show j + szs ss ≤ 1048576; rw [szs_all ss j h.len] at hle; exact hle
        clear hs
        generalize szs (ss.take j) = q at *
        go_wp2
        all_goals go_ret
        all_goals first | exact ⟨false, rfl, by simp, rfl⟩ | exact ⟨true, rfl, fun _ => HF.out, rfl⟩
  · clear hs
    go_enter Try.func21, Try.ntmps21
    go_wp2
    go_ret
    exact ⟨false, rfl, by simp, rfl⟩

set_option maxHeartbeats 1000000 in
set_option maxRecDepth 100000 in
theorem bound24_any (ao : Option Addr) (n c : Nat) (a1 : Option Addr) (n1 c1 : Nat) (a2 : Option Addr) (n2 c2 : Nat) (ss : List ByteArray) (w : World) (hn : n ≤ maxLen) (h1 : n1 ≤ maxLen) (h2 : n2 ≤ maxLen) (hs : ∀ (i : Nat) (h : i < ss.length), ss[i].size ≤ maxLen) (h : ArgStrs w ao n ss) :
    Calls Try.prog 24 #[.slice ao n c, .slice a1 n1 c1, .slice a2 n2 c2] w fun e w' => ∃ r : Bool, e = .returned (.bool r) ∧ (r = true → n + szs ss ≤ 1048576) ∧ w = w' := by
  unfold maxLen at hn h1 h2
  by_cases h2 : n ≤ 1048576
  · go_enter Try.func24, Try.ntmps24
    go_wp2
    go_loopg [7, 8] n (fun g z i wr => ∃ j : Nat, g = n - j ∧ j ≤ n ∧ i = .int .i64 j ∧ z = .int .i64 ((n + szs (ss.take j) : Nat) : Int) ∧ n + szs (ss.take j) ≤ 1048576 ∧ wr = w)
    case atStart => exact ⟨0, rfl, by omega, rfl, by simp [szs], by simpa [szs] using h2, rfl⟩
    case round =>
      obtain ⟨j, rfl, hj, rfl, rfl, hle, rfl⟩ := hrel
      by_cases hlt : j < n
      · obtain ⟨bb, o, rfl, hb, hc⟩ := h.at_ (by omega)
        have hjl : j < ss.length := by rw [h.len]; exact hlt
        have hcell := hc j hjl
        have hsj := hs j hjl
        have HST : Hid (szs (ss.take (j + 1)) = szs (ss.take j) + ss[j].size) := szs_take_succ ss j hjl
        unfold maxLen at hsj
        clear hc hs
        obtain ⟨x, hx⟩ : ∃ x, x = ss[j] := ⟨_, rfl⟩
        rw [← hx] at hcell hsj HST
        clear hx
        generalize szs (ss.take j) = q at *
        by_cases h4 : x.size ≤ 1048576
        · by_cases h5 : n + q + x.size ≤ 1048576
          · go_wp2
            go_roundg (n - (j + 1))
            case measure => omega
            case rel => exact ⟨j + 1, rfl, by omega, by go_num, by rw [HST.out]; go_num, by rw [HST.out]; omega, rfl⟩
          · go_wp2
            go_ret
            exact ⟨false, rfl, by simp, rfl⟩
        · go_wp2
          go_ret
          exact ⟨false, rfl, by simp, rfl⟩
      · have e : j = n := by omega
        subst e
        have HF : Hid (j + szs ss ≤ 1048576) := by show j + szs ss ≤ 1048576; rw [szs_all ss j h.len] at hle; exact hle
        clear hs
        generalize szs (ss.take j) = q at *
        go_wp2
        all_goals go_ret
        all_goals first | exact ⟨false, rfl, by simp, rfl⟩ | exact ⟨true, rfl, fun _ => HF.out, rfl⟩
  · clear hs
    go_enter Try.func24, Try.ntmps24
    go_wp2
    go_ret
    exact ⟨false, rfl, by simp, rfl⟩

set_option maxHeartbeats 1000000 in
set_option maxRecDepth 100000 in
theorem bound38_any (ao : Option Addr) (n c : Nat) (a1 : Option Addr) (n1 c1 : Nat) (a2 : Option Addr) (n2 c2 : Nat) (a3 : Option Addr) (n3 c3 : Nat) (x : Int) (ss : List ByteArray) (w : World) (hn : n ≤ maxLen) (h1 : n1 ≤ maxLen) (h2 : n2 ≤ maxLen) (h3 : n3 ≤ maxLen) (hs : ∀ (i : Nat) (h : i < ss.length), ss[i].size ≤ maxLen) (h : ArgStrs w ao n ss) :
    Calls Try.prog 38 #[.slice ao n c, .slice a1 n1 c1, .slice a2 n2 c2, .slice a3 n3 c3, .int .i64 x] w fun e w' => ∃ r : Bool, e = .returned (.bool r) ∧ (r = true → n + szs ss ≤ 1048576) ∧ w = w' := by
  unfold maxLen at hn h1 h2 h3
  by_cases h2 : n ≤ 1048576
  · go_enter Try.func38, Try.ntmps38
    go_wp2
    go_loopg [11, 12] n (fun g z i wr => ∃ j : Nat, g = n - j ∧ j ≤ n ∧ i = .int .i64 j ∧ z = .int .i64 ((n + szs (ss.take j) : Nat) : Int) ∧ n + szs (ss.take j) ≤ 1048576 ∧ wr = w)
    case atStart => exact ⟨0, rfl, by omega, rfl, by simp [szs], by simpa [szs] using h2, rfl⟩
    case round =>
      obtain ⟨j, rfl, hj, rfl, rfl, hle, rfl⟩ := hrel
      by_cases hlt : j < n
      · obtain ⟨bb, o, rfl, hb, hc⟩ := h.at_ (by omega)
        have hjl : j < ss.length := by rw [h.len]; exact hlt
        have hcell := hc j hjl
        have hsj := hs j hjl
        have HST : Hid (szs (ss.take (j + 1)) = szs (ss.take j) + ss[j].size) := szs_take_succ ss j hjl
        unfold maxLen at hsj
        clear hc hs
        obtain ⟨x, hx⟩ : ∃ x, x = ss[j] := ⟨_, rfl⟩
        rw [← hx] at hcell hsj HST
        clear hx
        generalize szs (ss.take j) = q at *
        by_cases h4 : x.size ≤ 1048576
        · by_cases h5 : n + q + x.size ≤ 1048576
          · go_wp2
            go_roundg (n - (j + 1))
            case measure => omega
            case rel => exact ⟨j + 1, rfl, by omega, by go_num, by rw [HST.out]; go_num, by rw [HST.out]; omega, rfl⟩
          · go_wp2
            go_ret
            exact ⟨false, rfl, by simp, rfl⟩
        · go_wp2
          go_ret
          exact ⟨false, rfl, by simp, rfl⟩
      · have e : j = n := by omega
        subst e
        have HF : Hid (j + szs ss ≤ 1048576) := by show j + szs ss ≤ 1048576; rw [szs_all ss j h.len] at hle; exact hle
        clear hs
        generalize szs (ss.take j) = q at *
        go_wp2
        all_goals go_ret
        all_goals first | exact ⟨false, rfl, by simp, rfl⟩ | exact ⟨true, rfl, fun _ => HF.out, rfl⟩
  · clear hs
    go_enter Try.func38, Try.ntmps38
    go_wp2
    go_ret
    exact ⟨false, rfl, by simp, rfl⟩

set_option maxHeartbeats 1000000 in
set_option maxRecDepth 100000 in
theorem bound41_any (ao : Option Addr) (n c : Nat) (a1 : Option Addr) (n1 c1 : Nat) (a2 : Option Addr) (n2 c2 : Nat) (x : Int) (ss : List ByteArray) (w : World) (hn : n ≤ maxLen) (h1 : n1 ≤ maxLen) (h2 : n2 ≤ maxLen) (hs : ∀ (i : Nat) (h : i < ss.length), ss[i].size ≤ maxLen) (h : ArgStrs w ao n ss) :
    Calls Try.prog 41 #[.slice ao n c, .slice a1 n1 c1, .slice a2 n2 c2, .int .i64 x] w fun e w' => ∃ r : Bool, e = .returned (.bool r) ∧ (r = true → n + szs ss ≤ 1048576) ∧ w = w' := by
  unfold maxLen at hn h1 h2
  by_cases h2 : n ≤ 1048576
  · go_enter Try.func41, Try.ntmps41
    go_wp2
    go_loopg [9, 10] n (fun g z i wr => ∃ j : Nat, g = n - j ∧ j ≤ n ∧ i = .int .i64 j ∧ z = .int .i64 ((n + szs (ss.take j) : Nat) : Int) ∧ n + szs (ss.take j) ≤ 1048576 ∧ wr = w)
    case atStart => exact ⟨0, rfl, by omega, rfl, by simp [szs], by simpa [szs] using h2, rfl⟩
    case round =>
      obtain ⟨j, rfl, hj, rfl, rfl, hle, rfl⟩ := hrel
      by_cases hlt : j < n
      · obtain ⟨bb, o, rfl, hb, hc⟩ := h.at_ (by omega)
        have hjl : j < ss.length := by rw [h.len]; exact hlt
        have hcell := hc j hjl
        have hsj := hs j hjl
        have HST : Hid (szs (ss.take (j + 1)) = szs (ss.take j) + ss[j].size) := szs_take_succ ss j hjl
        unfold maxLen at hsj
        clear hc hs
        obtain ⟨x, hx⟩ : ∃ x, x = ss[j] := ⟨_, rfl⟩
        rw [← hx] at hcell hsj HST
        clear hx
        generalize szs (ss.take j) = q at *
        by_cases h4 : x.size ≤ 1048576
        · by_cases h5 : n + q + x.size ≤ 1048576
          · go_wp2
            go_roundg (n - (j + 1))
            case measure => omega
            case rel => exact ⟨j + 1, rfl, by omega, by go_num, by rw [HST.out]; go_num, by rw [HST.out]; omega, rfl⟩
          · go_wp2
            go_ret
            exact ⟨false, rfl, by simp, rfl⟩
        · go_wp2
          go_ret
          exact ⟨false, rfl, by simp, rfl⟩
      · have e : j = n := by omega
        subst e
        have HF : Hid (j + szs ss ≤ 1048576) := by show j + szs ss ≤ 1048576; rw [szs_all ss j h.len] at hle; exact hle
        clear hs
        generalize szs (ss.take j) = q at *
        go_wp2
        all_goals go_ret
        all_goals first | exact ⟨false, rfl, by simp, rfl⟩ | exact ⟨true, rfl, fun _ => HF.out, rfl⟩
  · clear hs
    go_enter Try.func41, Try.ntmps41
    go_wp2
    go_ret
    exact ⟨false, rfl, by simp, rfl⟩

set_option maxHeartbeats 1000000 in
set_option maxRecDepth 100000 in
theorem bytes_any (ao : Option Addr) (n c k : Nat) (ss : List ByteArray) (w : World) (hk : k ≤ 1000000) (hn : n ≤ 65536) (hs : szs ss ≤ 1048576) (h : ArgStrs w ao n ss) :
    Calls Try.prog 12 #[.slice ao n c, .int .i64 k] w fun e w' => ∃ r : Int, e = .returned (.int .i64 r) ∧ w = w' := by
  go_enter Try.func12, Try.ntmps12
  go_wp2
  go_loopg [5, 6] n (fun g z i wr => ∃ j : Nat, g = n - j ∧ j ≤ n ∧ i = .int .i64 j ∧ z = .int .i64 ((16 * n + 8 * k + szs (ss.take j) : Nat) : Int) ∧ wr = w)
  case atStart => exact ⟨0, rfl, by omega, rfl, by simp [szs], rfl⟩
  case round =>
    obtain ⟨j, rfl, hj, rfl, rfl, rfl⟩ := hrel
    by_cases hlt : j < n
    · obtain ⟨bb, o, rfl, hb, hc⟩ := h.at_ (by omega)
      have hjl : j < ss.length := by rw [h.len]; exact hlt
      have hcell := hc j hjl
      have hle := szs_take_le ss (j + 1)
      have hst := szs_take_succ ss j hjl
      rw [hst] at hle
      have HST : Hid (szs (ss.take (j + 1)) = szs (ss.take j) + ss[j].size) := hst
      clear hc hst
      obtain ⟨x, hx⟩ : ∃ x, x = ss[j] := ⟨_, rfl⟩
      rw [← hx] at hcell HST hle
      clear hx
      generalize szs (ss.take j) = q at *
      have hq : q + x.size ≤ 1048576 := by omega
      clear hle
      by_cases h5 : 16 * n + 8 * k + q + x.size ≤ 1048576
      · go_wp2
        go_roundg (n - (j + 1))
        case measure => omega
        case rel => exact ⟨j + 1, rfl, by omega, by go_num, by rw [HST.out]; go_num, rfl⟩
      · go_wp2
        go_ret
        exact ⟨_, rfl, rfl⟩
    · go_wp2
      go_ret
      exact ⟨_, rfl, rfl⟩

/-! ### The copies -/
theorem strs_part (ss : List ByteArray) (j : Nat) (h : j < ss.length) : ((strs (ss.take j)) ++ List.replicate (ss.length - j) (Value.string ⟨#[]⟩)).set j (.string ss[j]) = strs (ss.take (j + 1)) ++ List.replicate (ss.length - (j + 1)) (Value.string ⟨#[]⟩) := by
  have h1 : (strs (ss.take j)).length = j := by rw [strs_len, List.length_take]; omega
  rw [List.set_append_right _ _ (by omega), h1, Nat.sub_self]
  rw [show ss.length - j = (ss.length - (j + 1)) + 1 by omega, List.replicate_succ, List.set_cons_zero, List.take_succ_eq_append_getElem h]
  simp only [strs, List.map_append, List.map_cons, List.map_nil, List.append_assoc, List.cons_append, List.nil_append]
theorem ints_part (xs : List Int) (j : Nat) (h : j < xs.length) : ((ints (xs.take j)) ++ List.replicate (xs.length - j) (Value.int .i64 0)).set j (.int .i64 xs[j]) = ints (xs.take (j + 1)) ++ List.replicate (xs.length - (j + 1)) (Value.int .i64 0) := by
  have h1 : (ints (xs.take j)).length = j := by rw [ints_len, List.length_take]; omega
  rw [List.set_append_right _ _ (by omega), h1, Nat.sub_self]
  rw [show xs.length - j = (xs.length - (j + 1)) + 1 by omega, List.replicate_succ, List.set_cons_zero, List.take_succ_eq_append_getElem h]
  simp only [ints, List.map_append, List.map_cons, List.map_nil, List.append_assoc, List.cons_append, List.nil_append]

set_option maxHeartbeats 1000000 in
set_option maxRecDepth 100000 in
theorem cloneStrs_any (ao : Option Addr) (n c : Nat) (ss : List ByteArray) (w : World) (hn : n ≤ 65536) (h0 : 0 < n) (h : ArgStrs w ao n ss) :
    Calls Try.prog 13 #[.slice ao n c] w fun e w' => e = .returned (.slice (some ⟨w.heap.size, 0, none⟩) n n) ∧ Row w' w.heap.size 9 (strs ss) ∧ Below w.heap.size w w' := by
  have hmk := run_make_row' (P := Try.prog) 22 9 (.string ⟨#[]⟩) 16 Try.underlying22 info9 rfl .i64 .i64 n (by omega) (by omega)
  have heq := fun (w : World) (a : Option Addr) (n c : Nat) => Lib.run_eql_slice_nil (P := Try.prog) w 22 9 a n c 0 0 Try.underlying22
  obtain ⟨b, o, rfl, hb, hc⟩ := h.at_ h0
  have HC : Hid (∀ i (h : i < ss.length), w.cell? ⟨b, o + i, none⟩ = some (.string ss[i])) := hc
  have HL : Hid (ss.length = n) := h.len
  clear hc h
  go_enter Try.func13, Try.ntmps13
  go_wp2
  have hR : Row (w.alloc (.cells (madeCells #[.string ⟨#[]⟩] n) 9)) w.heap.size 9 (strs (ss.take 0) ++ List.replicate (ss.length - 0) (Value.string ⟨#[]⟩)) := by
    rw [HL.out]; simpa [strs] using row_made w (.string ⟨#[]⟩) n 9
  have hB : Below w.heap.size w (w.alloc (.cells (madeCells #[.string ⟨#[]⟩] n) 9)) := (Below.refl _ _).alloc (Nat.le_refl _) _
  generalize w.alloc (.cells (madeCells #[.string ⟨#[]⟩] n) 9) = w1 at *
  clear hmk heq
  go_loopg [4] n (fun k j wr => ∃ jn : Nat, k = n - jn ∧ jn ≤ n ∧ j = .int .i64 jn ∧ Row wr w.heap.size 9 (strs (ss.take jn) ++ List.replicate (ss.length - jn) (Value.string ⟨#[]⟩)) ∧ Below w.heap.size w wr)
  case atStart => exact ⟨0, rfl, by omega, rfl, hR, hB⟩
  case round =>
    clear hR hB
    obtain ⟨j, rfl, hj, rfl, hR, hB⟩ := hrel
    by_cases hlt : j < n
    · have hjl : j < ss.length := by rw [HL.out]; exact hlt
      have hcell := (hB.cell (p := ⟨b, o + j, none⟩) hb).trans (HC.out j hjl)
      have hl1 : (strs (ss.take j)).length = j := by rw [strs_len, List.length_take]; omega
      have hst : wr.cell? ⟨w.heap.size, j, none⟩ = some (.string ⟨#[]⟩) := hR.cell (by rw [List.getElem?_append_right (by omega), hl1, List.getElem?_replicate, if_pos (by omega)])
      have hfz := hR.frozen j
      have hR' := hR.set j (.string ss[j])
      rw [strs_part ss j hjl] at hR'
      have hB' := hB.setCell (p := ⟨w.heap.size, j, none⟩) (Nat.le_refl _) (.string ss[j])
      have HR' : Hid (Row (wr.setCell ⟨w.heap.size, j, none⟩ (.string ss[j])) w.heap.size 9 (strs (ss.take (j + 1)) ++ List.replicate (ss.length - (j + 1)) (Value.string ⟨#[]⟩))) := hR'
      clear hR hB hR' hl1
      go_wp2
      go_roundg (n - (j + 1))
      case measure => omega
      case rel => exact ⟨j + 1, rfl, by omega, by go_num, HR'.out, hB'⟩
    · have e : j = n := by omega
      subst e
      have hfin : Row wr w.heap.size 9 (strs ss) := by
        have := hR
        rw [HL.out, Nat.sub_self, ← HL.out, List.take_length] at this
        simpa using this
      have HF : Hid (Row wr w.heap.size 9 (strs ss)) := hfin
      clear hfin hR
      go_wp2
      go_ret
      exact ⟨rfl, HF.out, hB⟩

/-- A slice of ints, nil or a row of its own. -/
structure IntsIn (w : World) (v : Value) (xs : List Int) : Prop where
  form : ∃ ao, v = .slice ao xs.length xs.length ∧ (0 < xs.length → ∃ b, ao = some ⟨b, 0, none⟩ ∧ Row w b 3 (ints xs))
theorem IntsIn.below {w w' : World} {v : Value} {xs : List Int} (h : IntsIn w v xs) (hb : Below w.heap.size w w') : IntsIn w' v xs := by
  obtain ⟨ao, e, h1⟩ := h.form
  exact ⟨ao, e, fun h0 => by obtain ⟨b, e1, hR⟩ := h1 h0; exact ⟨b, e1, hR.below hb hR.lt⟩⟩

set_option maxHeartbeats 1000000 in
set_option maxRecDepth 100000 in
theorem cloneInts_any (ao : Option Addr) (n c : Nat) (xs : List Int) (w : World) (hn : n ≤ 65536) (h : ArgInts w ao n xs) :
    Calls Try.prog 14 #[.slice ao n c] w fun e w' => ∃ v, e = .returned v ∧ IntsIn w' v xs ∧ Below w.heap.size w w' := by
  have hmk := run_make_row' (P := Try.prog) 23 3 (.int .i64 0) 8 Try.underlying23 info3 rfl .i64 .i64 n (by omega) (by omega)
  have heq := fun (w : World) (a : Option Addr) (n c : Nat) => Lib.run_eql_slice_nil (P := Try.prog) w 23 3 a n c 0 0 Try.underlying23
  have HX : Hid (ArgInts w ao n xs) := h
  have HL : Hid (xs.length = n) := h.len
  cases ao with
  | none =>
    have hn0 : n = 0 := by
      rcases Nat.eq_zero_or_pos n with e | e
      · exact e
      · obtain ⟨_, _, e, _⟩ := h.at_ e; cases e
    subst hn0
    clear h hmk
    go_enter Try.func14, Try.ntmps14
    go_wp2
    go_ret
    exact ⟨_, rfl, ⟨none, by rw [HL.out]; rfl, fun e => by have := HL.out; omega⟩, Below.refl _ _⟩
  | some x =>
    clear h
    go_enter Try.func14, Try.ntmps14
    go_wp2
    have hR : Row (w.alloc (.cells (madeCells #[.int .i64 0] n) 3)) w.heap.size 3 (ints (xs.take 0) ++ List.replicate (xs.length - 0) (Value.int .i64 0)) := by
      rw [HL.out]; simpa [ints] using row_made w (.int .i64 0) n 3
    have hB : Below w.heap.size w (w.alloc (.cells (madeCells #[.int .i64 0] n) 3)) := (Below.refl _ _).alloc (Nat.le_refl _) _
    generalize w.alloc (.cells (madeCells #[.int .i64 0] n) 3) = w1 at *
    clear hmk heq
    go_loopg [4] n (fun k j wr => ∃ jn : Nat, k = n - jn ∧ jn ≤ n ∧ j = .int .i64 jn ∧ Row wr w.heap.size 3 (ints (xs.take jn) ++ List.replicate (xs.length - jn) (Value.int .i64 0)) ∧ Below w.heap.size w wr)
    case atStart => exact ⟨0, rfl, by omega, rfl, hR, hB⟩
    case round =>
      clear hR hB
      obtain ⟨j, rfl, hj, rfl, hR, hB⟩ := hrel
      by_cases hlt : j < n
      · obtain ⟨b, o, e, hb, hc⟩ := HX.out.at_ (by omega)
        cases e
        have hjl : j < xs.length := by rw [HL.out]; exact hlt
        have hcell := (hB.cell (p := ⟨b, o + j, none⟩) hb).trans (hc j hjl)
        have hl1 : (ints (xs.take j)).length = j := by rw [ints_len, List.length_take]; omega
        have hst : wr.cell? ⟨w.heap.size, j, none⟩ = some (.int .i64 0) := hR.cell (by rw [List.getElem?_append_right (by omega), hl1, List.getElem?_replicate, if_pos (by omega)])
        have hfz := hR.frozen j
        have hR' := hR.set j (.int .i64 xs[j])
        rw [ints_part xs j hjl] at hR'
        have hB' := hB.setCell (p := ⟨w.heap.size, j, none⟩) (Nat.le_refl _) (.int .i64 xs[j])
        have HR' : Hid (Row (wr.setCell ⟨w.heap.size, j, none⟩ (.int .i64 xs[j])) w.heap.size 3 (ints (xs.take (j + 1)) ++ List.replicate (xs.length - (j + 1)) (Value.int .i64 0))) := hR'
        clear hR hB hR' hl1 hc
        go_wp2
        go_roundg (n - (j + 1))
        case measure => omega
        case rel => exact ⟨j + 1, rfl, by omega, by go_num, HR'.out, hB'⟩
      · have e : j = n := by omega
        subst e
        have hfin : Row wr w.heap.size 3 (ints xs) := by
          have := hR
          rw [HL.out, Nat.sub_self, ← HL.out, List.take_length] at this
          simpa using this
        have HF : Hid (Row wr w.heap.size 3 (ints xs)) := hfin
        clear hfin hR
        go_wp2
        go_ret
        exact ⟨_, rfl, ⟨some ⟨w.heap.size, 0, none⟩, by rw [HL.out]; rfl, fun _ => ⟨w.heap.size, rfl, HF.out⟩⟩, hB⟩

end Go.Proofs.Qxb6600010a
