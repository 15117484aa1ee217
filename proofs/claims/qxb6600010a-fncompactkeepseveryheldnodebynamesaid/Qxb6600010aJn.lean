/-
  THE JOINED LISTS IN MEMORY: a slice that owns its row, sorted by rank.
-/
import Derived.Test.Qxb6600010aTg
import Derived.Test.Qxb6600010aSortRank
namespace Go.Proofs.Qxb6600010a
open Go.RowKit
set_option linter.unusedVariables false
set_option linter.unusedSimpArgs false

theorem TgAt.keep {w w' : World} {base tb cb n c k : Nat} {T : List (List Nat)} {ct : Nat × Nat → Nat} {TV : List Value} (h : TgAt w base tb cb n c T ct TV) (hg : w.grownBy w' (some k)) (h1 : k ≠ tb) (h2 : k ≠ cb) (h3 : k < base) : TgAt w' base tb cb n c T ct TV :=
  ⟨h.row.kept hg (by simpa using h1.symm), h.len, fun a v hv => (h.own a v hv).kept hg (by
    cases hk : v.ownBlock with
    | none => exact .inl rfl
    | some j =>
      right
      intro e
      have := (owns_block (h.own a v hv) j hk).1
      cases e; omega), h.sep, h.cnt.kept hg (by simpa using h2.symm)⟩
theorem TgAt.kp {w w' : World} {base tb cb n c B : Nat} {S : List Nat} {T : List (List Nat)} {ct : Nat × Nat → Nat} {TV : List Value} (h : TgAt w base tb cb n c T ct TV) (hk : Kp B S w w') (hB : B = w.heap.size) (h1 : tb ∉ S) (h2 : cb ∉ S) (h3 : ∀ (a : Nat) (v : Value) (k : Nat), TV[a]? = some v → v.ownBlock = some k → k ∉ S) : TgAt w' base tb cb n c T ct TV := by
  subst hB
  exact ⟨h.row.kp hk h.row.lt h1, h.len, fun a v hv => owns_kp (h.own a v hv) hk (fun k hk' => ⟨(owns_block (h.own a v hv) k hk').2.1, h3 a v k hv hk'⟩), h.sep, h.cnt.kp hk h.cnt.lt h2⟩

theorem owns_to_row {w : World} {base n : Nat} {v : Value} {xs : List Value} (h : w.ownsRow base 3 1 v n xs) (h0 : 0 < n) :
    ∃ g cap rest, v = .slice (some ⟨g, 0, none⟩) n cap ∧ base ≤ g ∧ Row w g 3 (xs ++ rest) ∧ n ≤ cap ∧ cap ≤ maxLen ∧ (xs ++ rest).length = cap := by
  rcases h.2 with ⟨_, h1⟩ | ⟨g, cap, cur, hv, hb, hg, h1, h2, h3, h4⟩
  · omega
  · have e : cur.toList = xs ++ cur.toList.drop n := by
      rw [← h4, Nat.mul_one, List.take_append_drop]
    refine ⟨g, cap, cur.toList.drop n, hv, hb, ?_, h1, h2, ?_⟩
    · unfold Row; rw [← e, hg]
    · rw [← e]; simpa using h3
theorem row_to_owns {w : World} {base n g cap : Nat} {xs rest : List Value} (hb : base ≤ g) (h : Row w g 3 (xs ++ rest)) (hl : xs.length = n) (h1 : n ≤ cap) (h2 : cap ≤ maxLen) (h3 : (xs ++ rest).length = cap) :
    w.ownsRow base 3 1 (.slice (some ⟨g, 0, none⟩) n cap) n xs :=
  ⟨by omega, .inr ⟨g, cap, (xs ++ rest).toArray, rfl, hb, h, h1, h2, by simpa using h3, by simp [← hl]⟩⟩

set_option maxHeartbeats 400000 in
set_option maxRecDepth 100000 in
theorem sortRank_none (w : World) (ao : Option Addr) (cap nb rl : Nat) :
    Calls Try.prog 43 #[.slice ao 0 cap, .slice (some ⟨nb, 0, none⟩) rl rl] w fun e w' => e = .returned (.tuple #[]) ∧ Kp w.heap.size [] w w' := by
  have hmk : ∀ w, (Instr.makeSlice 23 (.int .i64 0) (.int .i64 0)).run Try.prog w = .ok (.slice (some ⟨w.heap.size, 0, none⟩) 0 0) (w.alloc (.cells #[] 3)) := fun _ => by kernel_rfl
  go_enter Try.func43, Try.ntmps43
  go_wp2
  refine wp_loop_rounds 1 ?_
  rw [rounds_succ]
  go_wp2
  go_end0
  exact ⟨rfl, (Kp.refl _ _ _).alloc (Nat.le_refl _) _⟩

theorem sortRank_owns (w : World) (base rb : Nat) (v : Value) (L rank : List Nat) (hl : L.length ≤ 65536) (hrl : rank.length ≤ 65536) (hr : Row w rb 3 (nats rank)) (hrb : rb < base) (hb : base ≤ w.heap.size) (hlt : ∀ x ∈ L, x < rank.length)
    (ho : w.ownsRow base 3 1 v L.length (nats L)) :
    Calls Try.prog 43 #[v, .slice (some ⟨rb, 0, none⟩) rank.length rank.length] w fun e w' => e = .returned (.tuple #[]) ∧ ∃ L' : List Nat, L'.Perm L ∧ L'.Pairwise (fun a b => PL.rankLe rank a b = true) ∧ w'.ownsRow base 3 1 v L'.length (nats L') ∧ Kp base [] w w' := by
  rcases Nat.eq_zero_or_pos L.length with h0 | h0
  · have hL : L = [] := List.eq_nil_of_length_eq_zero h0
    subst hL
    obtain ⟨ao, cap, rfl, _⟩ := owns_form ho
    refine (sortRank_none w ao cap rb rank.length).mono ?_
    rintro e w' ⟨rfl, hk⟩
    refine ⟨rfl, [], List.Perm.refl _, List.Pairwise.nil, ?_, hk.mono hb (by simp)⟩
    exact owns_kp ho hk (fun k hk' => ⟨(owns_block ho k hk').2.1, by simp⟩)
  · obtain ⟨g, cap, rest, rfl, hbg, hrow, h1, h2, h3⟩ := owns_to_row ho h0
    refine (sortRank_any w g cap rb L rest rank hl hrl (by omega) hlt hrow hr).mono ?_
    rintro e w' ⟨rfl, L', hp, hs, hrow', hg⟩
    have hll : L'.length = L.length := hp.length_eq
    refine ⟨rfl, L', hp, hs, ?_, (Kp.refl base [] w).grown hg hb (fun k hk => .inl (by cases hk; exact hbg))⟩
    rw [hll]
    exact row_to_owns hbg hrow' (by rw [nats_len, hll]) h1 h2 (by rw [List.length_append, nats_len, hll]; rw [List.length_append, nats_len] at h3; exact h3)

/-- The joined slices of the first a nodes are done. -/
structure JnAt (w : World) (jb n a base : Nat) (J : List (List Nat)) (JV : List Value) : Prop where
  row : Row w jb 23 JV
  len : JV.length = n
  jl : J.length = a
  own : ∀ (k : Nat) (v : Value), k < a → JV[k]? = some v → w.ownsRow base 3 1 v (PL.tg J k).length (nats (PL.tg J k))
  nil : ∀ (k : Nat), a ≤ k → k < n → JV[k]? = some (.slice none 0 0)

theorem jn0 {w : World} {jb n base : Nat} (h : Row w jb 23 (List.replicate n (.slice none 0 0))) : JnAt w jb n 0 base [] (List.replicate n (.slice none 0 0)) :=
  ⟨h, by simp, rfl, fun k v h0 => by omega, fun k _ h1 => by rw [List.getElem?_replicate, if_pos h1]⟩

/-- One more is done. -/
theorem JnAt.next {wa w : World} {jb n a base Ba : Nat} {S : List Nat} {J : List (List Nat)} {JV : List Value} {v : Value} {L : List Nat} (h : JnAt wa jb n a base J JV) (hk : Kp Ba S wa w) (hB : Ba = wa.heap.size) (hS : ∀ k ∈ S, k < base) (ha : a < n) (hb : base ≤ Ba)
    (hr : Row w jb 23 (JV.set a v)) (ho : w.ownsRow Ba 3 1 v L.length (nats L)) : JnAt w jb n (a + 1) base (J ++ [L]) (JV.set a v) := by
  have hal : a < JV.length := by rw [h.len]; exact ha
  refine ⟨hr, by simp [h.len], by simp [h.jl], fun k u hk' hu => ?_, fun k h1 h2 => ?_⟩
  · by_cases e : k = a
    · subst e
      rw [List.getElem?_set_self hal] at hu
      cases hu
      have : PL.tg (J ++ [L]) k = L := by unfold PL.tg; rw [List.getElem?_append_right (by rw [h.jl]; omega), h.jl]; simp
      rw [this]
      exact owns_base ho hb
    · rw [List.getElem?_set_ne (fun e' => e e'.symm)] at hu
      have h0 := h.own k u (by omega) hu
      have : PL.tg (J ++ [L]) k = PL.tg J k := by unfold PL.tg; rw [List.getElem?_append_left (by rw [h.jl]; omega)]
      rw [this]
      refine owns_kp h0 hk (fun q hq => ?_)
      have := owns_block h0 q hq
      exact ⟨by omega, fun hm => by have := hS q hm; omega⟩
  · rw [List.getElem?_set_ne (by omega)]
    exact h.nil k (by omega) h2

/-! ### The listers -/
structure LsOK (T : List (List Nat)) (n a t : Nat) (ls : List Nat) : Prop where
  len : ls.length = n
  pos : ∀ (k : Nat), k < a → ∀ (b : Nat), b ∈ PL.tg T k → 0 < ls[b]?.getD 0
  cur : ∀ (b : Nat), b ∈ (PL.tg T a).take t → 0 < ls[b]?.getD 0
  small : ∀ (b : Nat), ls[b]?.getD 0 ≤ a * 65536 + t
theorem ls0 (T : List (List Nat)) (n : Nat) : LsOK T n 0 0 (List.replicate n 0) :=
  ⟨by simp, fun k hk => by omega, fun b hb => by simp at hb, fun b => by
    rw [List.getElem?_replicate]; split <;> simp⟩
theorem LsOK.step {T : List (List Nat)} {n a t : Nat} {ls : List Nat} (h : LsOK T n a t ls) {b x : Nat} (ht : (PL.tg T a)[t]? = some b) (hx : ls[b]? = some x) : LsOK T n a (t + 1) (ls.set b (x + 1)) := by
  have hbl : b < ls.length := (List.getElem?_eq_some_iff.1 hx).1
  have key : ∀ (c : Nat), (ls.set b (x + 1))[c]?.getD 0 = if c = b then x + 1 else ls[c]?.getD 0 := by
    intro c
    by_cases e : c = b
    · subst e; simp [hbl]
    · rw [if_neg e, List.getElem?_set_ne (fun e' => e e'.symm)]
  refine ⟨by simp [h.len], fun k hk c hc => ?_, fun c hc => ?_, fun c => ?_⟩
  · rw [key]; split
    · omega
    · exact h.pos k hk c hc
  · rw [key]; split
    · omega
    · rename_i hne
      obtain ⟨htl, hte⟩ := List.getElem?_eq_some_iff.1 ht
      rw [List.take_succ_eq_append_getElem htl, List.mem_append] at hc
      rcases hc with hc | hc
      · exact h.cur c hc
      · rw [hte] at hc; simp at hc; exact absurd hc hne
  · rw [key]
    have h1 := h.small c
    have h2 := h.small b
    rw [hx] at h2
    simp at h2
    split <;> omega
theorem LsOK.next {T : List (List Nat)} {n a t : Nat} {ls : List Nat} (h : LsOK T n a t ls) (ht : t = (PL.tg T a).length) (hs : t ≤ 65536) : LsOK T n (a + 1) 0 ls := by
  refine ⟨h.len, fun k hk b hb => ?_, fun b hb => by simp at hb, fun b => ?_⟩
  · by_cases e : k = a
    · subst e
      exact h.cur b (by rw [ht, List.take_length]; exact hb)
    · exact h.pos k (by omega) b hb
  · have h1 := h.small b
    generalize ls[b]?.getD 0 = q at *
    have h2 : a * 65536 + t ≤ (a + 1) * 65536 := by rw [Nat.add_mul, Nat.one_mul]; exact Nat.add_le_add_left hs _
    rw [Nat.add_zero]
    exact Nat.le_trans h1 h2

/-- Those of the first t targets of a that name a too. -/
def flt (T : List (List Nat)) (ct : Nat × Nat → Nat) (a t : Nat) : List Nat := ((PL.tg T a).take t).filter fun b => decide (0 < ct (b, a))
theorem flt_yes {T : List (List Nat)} {ct : Nat × Nat → Nat} {a t b : Nat} (h : (PL.tg T a)[t]? = some b) (hc : 0 < ct (b, a)) : flt T ct a (t + 1) = flt T ct a t ++ [b] := by
  obtain ⟨htl, hte⟩ := List.getElem?_eq_some_iff.1 h
  unfold flt
  rw [List.take_succ_eq_append_getElem htl, List.filter_append, hte]
  simp [hc]
theorem flt_no {T : List (List Nat)} {ct : Nat × Nat → Nat} {a t b : Nat} (h : (PL.tg T a)[t]? = some b) (hc : ct (b, a) = 0) : flt T ct a (t + 1) = flt T ct a t := by
  obtain ⟨htl, hte⟩ := List.getElem?_eq_some_iff.1 h
  unfold flt
  rw [List.take_succ_eq_append_getElem htl, List.filter_append, hte]
  simp [hc]
theorem flt_len (T : List (List Nat)) (ct : Nat × Nat → Nat) (a t : Nat) : (flt T ct a t).length ≤ t := by
  unfold flt
  have h1 := List.length_filter_le (fun b => decide (0 < ct (b, a))) ((PL.tg T a).take t)
  have h2 := List.length_take_le t (PL.tg T a)
  omega
theorem flt_mem {T : List (List Nat)} {ct : Nat × Nat → Nat} {a t x : Nat} (h : x ∈ flt T ct a t) : x ∈ PL.tg T a := by
  unfold flt at h
  exact List.mem_of_mem_take (List.mem_filter.1 h).1

end Go.Proofs.Qxb6600010a
