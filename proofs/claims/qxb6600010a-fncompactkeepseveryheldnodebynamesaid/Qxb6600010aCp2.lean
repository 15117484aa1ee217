/-
  THE WALK of compact: its second loop (links and joined lists are numbered anew).
-/
import Derived.Test.Qxb6600010aCp1
import Derived.Maps.RangeWalk
namespace Go.Proofs.Qxb6600010a
open Go.RowKit
set_option linter.unusedVariables false
set_option linter.unusedSimpArgs false
attribute [local go_sem ↓] Go.wp_at_zero Go.wp_at_succ
theorem len_le_of_sub {α : Type} : ∀ {l1 l2 : List α}, l1.Nodup → (∀ x, x ∈ l1 → x ∈ l2) → l1.length ≤ l2.length
  | [], _, _, _ => Nat.zero_le _
  | a :: t, l2, hn, hs => by
    have ha : a ∈ l2 := hs a (by simp)
    obtain ⟨s, u, rfl⟩ := List.append_of_mem ha
    have hn' := List.nodup_cons.1 hn
    have h1 : t.length ≤ (s ++ u).length := len_le_of_sub hn'.2 (fun x hx => by
      have h2 := hs x (by simp [hx])
      have hne : x ≠ a := fun e => hn'.1 (e ▸ hx)
      simp at h2 ⊢
      rcases h2 with h2 | h2 | h2
      · exact .inl h2
      · exact absurd h2 hne
      · exact .inr h2)
    simp at h1 ⊢
    omega
theorem sub_of_len {α : Type} {l1 l2 : List α} (hn : l1.Nodup) (hs : ∀ x, x ∈ l1 → x ∈ l2) (hl : l2.length ≤ l1.length) (x : α) (hx : x ∈ l2) : x ∈ l1 := by
  apply Classical.byContradiction
  intro hnot
  have := len_le_of_sub (l1 := x :: l1) (l2 := l2) (List.nodup_cons.2 ⟨hnot, hn⟩) (fun y hy => by
    rcases List.mem_cons.1 hy with rfl | h
    · exact hx
    · exact hs y h)
  simp at this
  omega
theorem len_eq_of_same {α : Type} {l1 l2 : List α} (h1 : l1.Nodup) (h2 : l2.Nodup) (h : ∀ x, x ∈ l1 ↔ x ∈ l2) : l1.length = l2.length :=
  Nat.le_antisymm (len_le_of_sub h1 (fun x => (h x).1)) (len_le_of_sub h2 (fun x => (h x).2))
/-- A map with as many entries as T has members, each of them a key: no other key lies in it. -/
theorem map_keys {w : World} {g n c : Nat} {D : DataW Unit} (ho : w.ownsMap Try.prog 3 (plainElem Try.prog 3) g n D) (hs : Maps.size D = c) (T : List Nat) (hT : T.Nodup) (hl : T.length = c) (hin : ∀ t, t ∈ T → Maps.has D (.int .i64 (t : Int)) = true) (kl : Lit) (hk : Maps.has D kl = true) : ∃ t, t ∈ T ∧ kl = .int .i64 (t : Int) := by
  obtain ⟨es, rfl, hpw, hkey⟩ := ho.entries keyed3
  rw [Maps.size_eq] at hs
  have hmem : ∀ l, Maps.has (.map es) l = true → l ∈ es.map Prod.fst := by
    intro l h
    rw [Maps.has_eq, List.any_eq_true] at h
    obtain ⟨p, hp, he⟩ := h
    exact List.mem_map.2 ⟨p, hp, WideAt.sameKey_eq he⟩
  have hinj : ∀ a b : Nat, Lit.int .i64 (a : Int) = Lit.int .i64 (b : Int) → a = b := fun a b e => by simp at e; omega
  have h1 : (T.map fun t : Nat => Lit.int .i64 (t : Int)).Nodup := by
    refine List.pairwise_map.2 (pw_to ?_ _ hT)
    intro a b hne e
    exact hne (hinj a b e)
  have h2 := sub_of_len h1 (fun x hx => by
    obtain ⟨t, ht, rfl⟩ := List.mem_map.1 hx
    exact hmem _ (hin t ht)) (by simp [hs, hl]) kl (hmem kl hk)
  obtain ⟨t, ht, rfl⟩ := List.mem_map.1 h2
  exact ⟨t, ht, rfl⟩
/-- The new links while the old are ranged over. -/
def lkF (hn : Nat) (hid LO : Nat → Nat) (left : Lit → Bool) (y : Nat) : Option Int := if y < hn ∧ LO (hid y) ≠ 0 ∧ left (.int .i64 (hid y : Int)) = false then some (LO (hid y) : Int) else none
structure RgAt (wi : World) (g0 r n0 g hn : Nat) (D : DataW Unit) (hid LO : Nat → Nat) (T : List Nat) (cnt : Nat) : Prop where
  ex : ∃ (left : Lit → Bool) (PR : List Nat), wi.ranges Try.prog 3 (plainElem Try.prog 3) g0 r n0 D left cnt ∧ MapAt kN wi 3 g PR.length (lkF hn hid LO left) ∧ PR.Nodup ∧ (∀ x, x ∈ PR ↔ x ∈ T ∧ left (.int .i64 (x : Int)) = false) ∧ (∀ kl, left kl = true → Maps.has D kl = true)
theorem lkF_step {hn x : Nat} {hid rn LO : Nat → Nat} {T : List Nat} {left : Lit → Bool} (hT : ∀ t, t ∈ T ↔ LO t ≠ 0) (hx : x ∈ T) (h1 : rn x < hn) (h2 : hid (rn x) = x) (h3 : ∀ y, y < hn → rn (hid y) = y) (u : Nat) :
    (if u = rn x then some (LO x : Int) else lkF hn hid LO left u) = lkF hn hid LO (fun z => left z && !z.sameKey (.int .i64 (x : Int))) u := by
  unfold lkF
  by_cases e : u = rn x
  · subst e
    rw [if_pos rfl, h2, if_pos ⟨h1, (hT x).1 hx, by simp [Lit.sameKey]⟩]
  · rw [if_neg e]
    by_cases hu : u < hn
    · have hne : hid u ≠ x := fun e' => e (by rw [← h3 u hu, e'])
      have hs : (Lit.int .i64 (hid u : Int)).sameKey (.int .i64 (x : Int)) = false := Maps.sameKey_ne (fun e' => hne (by simp at e'; omega))
      simp only [hs, Bool.not_false, Bool.and_true]
    · rw [if_neg (fun h => hu h.1), if_neg (fun h => hu h.1)]
theorem RgAt.start {w' : World} {g0 r n0 g hn : Nat} {D : DataW Unit} {hid LO : Nat → Nat} {T : List Nat} (hrg : w'.ranges Try.prog 3 (plainElem Try.prog 3) g0 r n0 D (Maps.has D) (Maps.size D)) (hm : MapAt kN w' 3 g 0 (fun _ => none)) (hT : ∀ t, t ∈ T → Maps.has D (.int .i64 (t : Int)) = true) (hL : ∀ t, LO t ≠ 0 → t ∈ T) : RgAt w' g0 r n0 g hn D hid LO T (Maps.size D) := by
  refine ⟨Maps.has D, [], hrg, hm.congr (fun y => ?_), List.nodup_nil, fun x => ?_, fun kl h => h⟩
  · unfold lkF
    rw [if_neg]
    rintro ⟨_, h2, h3⟩
    rw [hT _ (hL _ h2)] at h3
    cases h3
  · constructor
    · intro h; cases h
    · rintro ⟨h1, h2⟩
      rw [hT x h1] at h2; cases h2
theorem RgAt.fin {w : World} {g hn : Nat} {hid LO : Nat → Nat} {T : List Nat} {left : Lit → Bool} {PR : List Nat} (hm : MapAt kN w 3 g PR.length (lkF hn hid LO left)) (hn' : PR.Nodup) (hp : ∀ x, x ∈ PR ↔ x ∈ T ∧ left (.int .i64 (x : Int)) = false) (hT : T.Nodup) (hl : ∀ kl, left kl = false) :
    MapAt kN w 3 g T.length (fun y => if (if y < hn then LO (hid y) else 0) = 0 then none else some ((if y < hn then LO (hid y) else 0 : Nat) : Int)) := by
  have e : PR.length = T.length := len_eq_of_same hn' hT (fun x => by rw [hp x]; exact ⟨fun h => h.1, fun h => ⟨h, hl _⟩⟩)
  rw [e] at hm
  refine hm.congr (fun y => ?_)
  unfold lkF
  by_cases hy : y < hn
  · simp only [hy, if_true, true_and, hl, and_true]
    by_cases h0 : LO (hid y) = 0
    · simp [h0]
    · simp [h0]
  · simp [hy]
theorem NAt.congr_lk {cs : List Value} {n : Nat} {nm : Nat → ByteArray} {lk lk' jv : Nat → Value} {ls : Nat → Nat} (h : NAt cs n nm lk jv ls) (he : ∀ j, j < n → lk j = lk' j) : NAt cs n nm lk' jv ls := ⟨h.len, h.nm, fun j hj => by rw [← he j hj]; exact h.lk j hj, h.jv, h.ls⟩
/-- What compact's second loop does: i1 nodes' links and i2 nodes' joined lists are numbered anew. -/
structure Cp2 (wr w4 : World) (hn B nb : Nat) (rn hid : Nat → Nat) (nm : Nat → ByteArray) (lkO jbO : Nat → Option Nat) (JO : Nat → List Nat) (ls lc : Nat → Nat) (LO : Nat → Nat → Nat) (i1 i2 : Nat) (lkN : Nat → Option Nat) : Prop where
  nodes : ∃ cs, Row wr nb 79 cs ∧ NAt cs hn nm (fun j => .map (if j < i1 then lkN j else lkO j)) (fun j => jval (jbO j) (JO j).length) ls
  new0 : ∀ j, j < i1 → lkN j = none → lkO j = none
  new1 : ∀ j g, j < i1 → lkN j = some g → B ≤ g ∧ MapAt kN wr 3 g (lc j) (fun y => if (if y < hn then LO j (hid y) else 0) = 0 then none else some ((if y < hn then LO j (hid y) else 0 : Nat) : Int))
  jn : ∀ j g, j < hn → jbO j = some g → Row wr g 3 (nats (if j < i2 then (JO j).map rn else JO j))
  kp : Kp B (nb :: tab hn (fun j => (jbO j).getD nb)) w4 wr
theorem mem_sj {hn nb g : Nat} {jbO : Nat → Option Nat} : g ∈ nb :: tab hn (fun j => (jbO j).getD nb) ↔ g = nb ∨ ∃ j, j < hn ∧ (jbO j).getD nb = g := by
  unfold tab
  simp
theorem Cp2.grow {wr w' w4 : World} {hn B nb i1 i2 : Nat} {rn hid : Nat → Nat} {nm : Nat → ByteArray} {lkO jbO : Nat → Option Nat} {JO : Nat → List Nat} {ls lc : Nat → Nat} {LO : Nat → Nat → Nat} {lkN : Nat → Option Nat} (h : Cp2 wr w4 hn B nb rn hid nm lkO jbO JO ls lc LO i1 i2 lkN) (hB : B ≤ wr.heap.size) (hk : Kp wr.heap.size [] wr w') : Cp2 w' w4 hn B nb rn hid nm lkO jbO JO ls lc LO i1 i2 lkN := by
  obtain ⟨cs, h1, h2⟩ := h.nodes
  exact ⟨⟨cs, h1.kp hk h1.lt (by simp), h2⟩, h.new0, fun j g hj hg => ⟨(h.new1 j g hj hg).1, (h.new1 j g hj hg).2.kp hk (h.new1 j g hj hg).2.lt (by simp)⟩, fun j g hj hg => (h.jn j g hj hg).kp hk (h.jn j g hj hg).lt (by simp), h.kp.trans (hk.mono hB (by simp))⟩
theorem neq_map_some (g : Nat) (w : World) : (binOp .neq 77 (.map (some g)) (.map none)).run Try.prog w = .ok (.bool true) w := by kernel_rfl
theorem neq_map_none (w : World) : (binOp .neq 77 (.map none) (.map none)).run Try.prog w = .ok (.bool false) w := by kernel_rfl
theorem neq_map_nil (lk : Option Nat) (w : World) : (binOp .neq 77 (.map lk) (.map none)).run Try.prog w = .ok (.bool lk.isSome) w := by
  cases lk with
  | none => exact neq_map_none w
  | some g => exact neq_map_some g w
theorem RgAt.step {w : World} {g0 r n0 g hn cnt : Nat} {D : DataW Unit} {hid rn LO : Nat → Nat} {T : List Nat} {left : Lit → Bool} {PR : List Nat} {x : Nat} (hT : ∀ t, t ∈ T ↔ LO t ≠ 0) (hx : x ∈ T) (h1 : rn x < hn) (h2 : hid (rn x) = x) (h3 : ∀ y, y < hn → rn (hid y) = y) (hlx : left (.int .i64 (x : Int)) = true)
    (hrg : w.ranges Try.prog 3 (plainElem Try.prog 3) g0 r n0 D (fun z => left z && !z.sameKey (.int .i64 (x : Int))) cnt)
    (hm : MapAt kN w 3 g (if (lkF hn hid LO left (rn x)).isSome then PR.length else PR.length + 1) (fun u => if u = rn x then some (LO x : Int) else lkF hn hid LO left u)) (hn' : PR.Nodup) (hp : ∀ x, x ∈ PR ↔ x ∈ T ∧ left (.int .i64 (x : Int)) = false) (hD : ∀ kl, left kl = true → Maps.has D kl = true) : RgAt w g0 r n0 g hn D hid LO T cnt := by
  have hno : lkF hn hid LO left (rn x) = none := by
    unfold lkF
    rw [if_neg]
    rintro ⟨_, _, h⟩
    rw [h2, hlx] at h; cases h
  rw [hno] at hm
  have hxP : x ∉ PR := by
    intro h
    have h4 := ((hp x).1 h).2
    rw [hlx] at h4; cases h4
  refine ⟨_, x :: PR, hrg, ?_, List.nodup_cons.2 ⟨hxP, hn'⟩, fun y => ?_, fun kl h => hD kl (by simp at h; exact h.1)⟩
  · exact hm.congr (lkF_step hT hx h1 h2 h3)
  · rw [List.mem_cons, hp y]
    by_cases e : y = x
    · subst e
      simp [hx, Lit.sameKey]
    · have hs : (Lit.int .i64 (y : Int)).sameKey (.int .i64 (x : Int)) = false := Maps.sameKey_ne (fun e' => e (by simp at e'; omega))
      simp [e, hs]
theorem Cp2.link {w1 wi w4 : World} {hn B nb i g kk : Nat} {rn hid : Nat → Nat} {nm : Nat → ByteArray} {lkO jbO : Nat → Option Nat} {JO : Nat → List Nat} {ls lc : Nat → Nat} {LO : Nat → Nat → Nat} {lkN : Nat → Option Nat} {cs : List Value} (h : Cp2 w1 w4 hn B nb rn hid nm lkO jbO JO ls lc LO i i lkN) (hsz : w1.heap.size = kk) (hB : B ≤ kk) (hil : i < hn) (hk : Kp kk [nb] w1 wi) (hrow : Row wi nb 79 cs)
    (hN : NAt cs hn nm (fun j => .map (if j < i + 1 then upd lkN i (some g) j else lkO j)) (fun j => jval (jbO j) (JO j).length) ls) (hg : B ≤ g) (hm : MapAt kN wi 3 g (lc i) (fun y => if (if y < hn then LO i (hid y) else 0) = 0 then none else some ((if y < hn then LO i (hid y) else 0 : Nat) : Int))) : Cp2 wi w4 hn B nb rn hid nm lkO jbO JO ls lc LO (i + 1) i (upd lkN i (some g)) := by
  subst hsz
  obtain ⟨cs1, h1, h2⟩ := h.nodes
  refine ⟨⟨cs, hrow, hN⟩, fun j hj hg => ?_, fun j g' hj hg' => ?_, fun j g' hj hg' => ?_, ?_⟩
  · by_cases e : j = i
    · subst e; rw [upd_same] at hg; cases hg
    · rw [upd_other _ _ _ _ e] at hg
      exact h.new0 j (by omega) hg
  · by_cases e : j = i
    · subst e; rw [upd_same] at hg'; cases hg'
      exact ⟨hg, hm⟩
    · rw [upd_other _ _ _ _ e] at hg'
      obtain ⟨h3, h4⟩ := h.new1 j g' (by omega) hg'
      refine ⟨h3, h4.kp hk h4.lt ?_⟩
      simp
      exact fun e => ne_map h1 h4 e.symm
  · have h3 := h.jn j g' hj hg'
    refine h3.kp hk h3.lt ?_
    simp
    exact ne_row h3 h1 (by decide)
  · exact h.kp.trans (hk.mono hB (by intro k _ hk; simp at hk; simp [hk]))
theorem Cp2.num {wc w' w4 : World} {hn B nb i1 i : Nat} {rn hid : Nat → Nat} {nm : Nat → ByteArray} {lkO jbO : Nat → Option Nat} {JO : Nat → List Nat} {ls lc : Nat → Nat} {LO : Nat → Nat → Nat} {lkN : Nat → Option Nat} (h : Cp2 wc w4 hn B nb rn hid nm lkO jbO JO ls lc LO i1 i lkN) (hi1 : i1 ≤ hn) (hil : i < hn) (hB : B ≤ wc.heap.size) (hJ0 : jbO i = none → JO i = []) (hJI : ∀ i j g, i < hn → j < hn → jbO i = some g → jbO j = some g → i = j)
    (hp1 : ∀ g, jbO i = some g → 0 < (JO i).length → Row w' g 3 (nats ((JO i).map rn)) ∧ wc.grownBy w' (some g)) (hp2 : (JO i).length = 0 → w' = wc) : Cp2 w' w4 hn B nb rn hid nm lkO jbO JO ls lc LO i1 (i + 1) lkN := by
  by_cases h0 : (JO i).length = 0
  · rw [hp2 h0]
    have hnil := List.eq_nil_of_length_eq_zero h0
    refine ⟨h.nodes, h.new0, h.new1, fun j g hj hg => ?_, h.kp⟩
    have h1 := h.jn j g hj hg
    by_cases e : j = i
    · subst e
      rw [if_neg (by omega)] at h1
      rw [if_pos (by omega), hnil] at *
      exact h1
    · by_cases h3 : j < i
      · rw [if_pos h3] at h1; rw [if_pos (by omega)]; exact h1
      · rw [if_neg h3] at h1; rw [if_neg (by omega)]; exact h1
  · cases hb : jbO i with
    | none => rw [hJ0 hb] at h0; simp at h0
    | some g =>
      obtain ⟨hr, hg⟩ := hp1 g hb (by omega)
      obtain ⟨cs, h1, h2⟩ := h.nodes
      have hgr := h.jn i g hil hb
      refine ⟨⟨cs, h1.kept hg (by simp; exact fun e => ne_row hgr h1 (by decide) e.symm), h2⟩, h.new0, fun j g' hj hg' => ?_, fun j g' hj hg' => ?_, ?_⟩
      · obtain ⟨h3, h4⟩ := h.new1 j g' hj hg'
        exact ⟨h3, h4.kept hg (by simp; exact fun e => ne_map hgr h4 e.symm)⟩
      · by_cases e : j = i
        · subst e
          rw [hb] at hg'; cases hg'
          rw [if_pos (by omega)]; exact hr
        · have hne : g' ≠ g := fun e' => e (hJI j i g hj hil (by rw [hg', e']) hb)
          have h5 := (h.jn j g' hj hg').kept hg (by simpa using hne)
          by_cases h3 : j < i
          · rw [if_pos h3] at h5; rw [if_pos (by omega)]; exact h5
          · rw [if_neg h3] at h5; rw [if_neg (by omega)]; exact h5
      · refine h.kp.grown hg hB (fun k hk => .inr ?_)
        cases hk
        exact mem_sj.2 (.inr ⟨i, hil, by rw [hb]; rfl⟩)
theorem map_tabF {n : Nat} {rn : Nat → Nat} {L : List Nat} (h : ∀ x ∈ L, x < n) : (L.map fun x => (tab n rn)[x]?.getD 0) = L.map rn := List.map_congr_left (fun x hx => tab_get n x rn 0 (h x hx))
set_option maxHeartbeats 20000000 in
set_option maxRecDepth 1000000 in
theorem compact_loop2 {c0 c1 c3 c5 c6 c7 c8 c9 c10 c11 c12 c13 c14 c15 c16 c17 c18 c19 c20 c21 c22 c23 c24 c25 c26 c27 c28 c29 c30 c31 c32 c33 c34 c35 c36 c37 c38 c39 c40 c41 c42 c43 c44 c45 c46 c47 c48 c49 c50 c51 c52 c53 c54 c55 c56 c57 c58 c59 c60 c61 c62 c63 c64 c65 c66 c67 c68 c69 c70 c71 c72 c73 c74 c78 c79 c80 c81 c82 c83 c84 c85 c86 c87 c88 c89 c90 c91 c92 c93 c94 c95 c96 c97 c98 c99 c100 c101 c102 c103 c104 c105 c106 c107 c108 c109 c110 c111 c112 c113 c114 c115 c116 c117 c118 c119 c120 c121 c122 c123 c124 c125 c126 c127 c128 c129 c130 c131 c132 c133 c134 c135 c136 c137 c138 c139 c140 c141 c142 c143 c144 c145 c146 c147 c148 c149 c150 c151 c152 c153 c154 c155 c156 c157 c158 c159 c160 c161 c162 : Value} {K : Act → World → Prop} {R : Ending → World → Prop} (w4 : World) (n hn B rb nb : Nat) (rn hid : Nat → Nat) (nm : Nat → ByteArray) (lkO jbO : Nat → Option Nat) (JO : Nat → List Nat) (ls lc : Nat → Nat) (LO : Nat → Nat → Nat) (T : Nat → List Nat) (hn1 : n ≤ 65536) (hhn : hn ≤ 65536) (HB : Hid (w4.heap.size = B)) (HR : Hid (Row w4 rb 3 (nats (tab n rn)))) (hrn : rb ≠ nb)
    (HJR : Hid (∀ j g, j < hn → jbO j = some g → g ≠ rb)) (HJI : Hid (∀ i j g, i < hn → j < hn → jbO i = some g → jbO j = some g → i = j)) (HL0 : Hid (∀ j, j < hn → lkO j = none → lc j = 0)) (HL1 : Hid (∀ j g, j < hn → lkO j = some g → MapAt kN w4 3 g (lc j) (fun t => if LO j t = 0 then none else some (LO j t : Int))))
    (HJ0 : Hid (∀ j, j < hn → jbO j = none → JO j = [])) (HJX : Hid (∀ j, j < hn → (JO j).length ≤ 65536 ∧ ∀ x ∈ JO j, x < n)) (HT : Hid (∀ j, j < hn → (T j).Nodup ∧ (T j).length = lc j ∧ (∀ t, t ∈ T j ↔ LO j t ≠ 0) ∧ ∀ t ∈ T j, t < n ∧ rn t < hn ∧ hid (rn t) = t)) (HID : Hid (∀ y, y < hn → rn (hid y) = y)) (HLO : Hid (∀ j t, LO j t ≤ 65536)) (HLC : Hid (∀ j, j < hn → lc j ≤ 65536))
    (h1 : Cp2 w4 w4 hn B nb rn hid nm lkO jbO JO ls lc LO 0 0 (fun _ => none))
    (HX : Hid (∀ (u7 u8 u9 u10 u11 u12 u13 u14 u15 u16 u17 u18 u19 u20 u21 u22 u23 u24 u25 u26 u27 u28 u29 u30 u31 u32 u33 u34 u35 u36 u37 u38 u39 u40 u41 u42 u43 u44 u45 u46 u47 u48 u49 u50 u51 u52 u53 u54 u55 u56 u57 u58 u59 u60 u61 u62 u63 u64 u65 u66 u67 u68 u69 u70 u71 u72 u73 u74 u75 u76 u77 u78 u79 u80 u81 u82 u83 u84 u85 u86 u87 u88 u89 u90 u91 u92 u93 u94 u95 u96 u97 u98 u99 u100 u101 u102 u103 u104 u105 u106 u107 u108 u109 u110 u111 u112 u113 u114 u115 u116 u117 u118 u119 u120 u121 u122 u123 u124 u125 u126 u127 u128 u129 u130 u131 u132 u133 u134 u135 u136 u137 u138 u139 u140 u141 u142 u143 u144 u145 u146 u147 u148 u149 u150 u151 u152 u153 u154 u155 u156 u157 u158 u159 u160 u161 u162 : Value) (w' : World), (∃ lkN, Cp2 w' w4 hn B nb rn hid nm lkO jbO JO ls lc LO hn hn lkN) → K ⟨List.toArray (c0 :: c1 :: (Value.slice (some ⟨rb, 0, none⟩) n n) :: c3 :: (Value.slice (some ⟨nb, 0, none⟩) hn hn) :: c5 :: c6 :: u7 :: u8 :: u9 :: u10 :: u11 :: u12 :: u13 :: u14 :: u15 :: u16 :: u17 :: u18 :: u19 :: u20 :: u21 :: u22 :: u23 :: u24 :: u25 :: u26 :: u27 :: u28 :: u29 :: u30 :: u31 :: u32 :: u33 :: u34 :: u35 :: u36 :: u37 :: u38 :: u39 :: u40 :: u41 :: u42 :: u43 :: u44 :: u45 :: u46 :: u47 :: u48 :: u49 :: u50 :: u51 :: u52 :: u53 :: u54 :: u55 :: u56 :: u57 :: u58 :: u59 :: u60 :: u61 :: u62 :: u63 :: u64 :: u65 :: u66 :: u67 :: u68 :: u69 :: u70 :: u71 :: u72 :: u73 :: u74 :: u75 :: u76 :: u77 :: u78 :: u79 :: u80 :: u81 :: u82 :: u83 :: u84 :: u85 :: u86 :: u87 :: u88 :: u89 :: u90 :: u91 :: u92 :: u93 :: u94 :: u95 :: u96 :: u97 :: u98 :: u99 :: u100 :: u101 :: u102 :: u103 :: u104 :: u105 :: u106 :: u107 :: u108 :: u109 :: u110 :: u111 :: u112 :: u113 :: u114 :: u115 :: u116 :: u117 :: u118 :: u119 :: u120 :: u121 :: u122 :: u123 :: u124 :: u125 :: u126 :: u127 :: u128 :: u129 :: u130 :: u131 :: u132 :: u133 :: u134 :: u135 :: u136 :: u137 :: u138 :: u139 :: u140 :: u141 :: u142 :: u143 :: u144 :: u145 :: u146 :: u147 :: u148 :: u149 :: u150 :: u151 :: u152 :: u153 :: u154 :: u155 :: u156 :: u157 :: u158 :: u159 :: u160 :: u161 :: u162 :: []), []⟩ w')) :
    Code.wp Try.prog (Code.loop (loopNo 1 Try.f47)) (Exit.inBlock 2 (Exit.then K (bodyPost Try.prog Try.f47 R))) ⟨List.toArray (c0 :: c1 :: (Value.slice (some ⟨rb, 0, none⟩) n n) :: c3 :: (Value.slice (some ⟨nb, 0, none⟩) hn hn) :: c5 :: c6 :: c7 :: c8 :: c9 :: c10 :: c11 :: c12 :: c13 :: c14 :: c15 :: c16 :: c17 :: c18 :: c19 :: c20 :: c21 :: c22 :: c23 :: c24 :: c25 :: c26 :: c27 :: c28 :: c29 :: c30 :: c31 :: c32 :: c33 :: c34 :: c35 :: c36 :: c37 :: c38 :: c39 :: c40 :: c41 :: c42 :: c43 :: c44 :: c45 :: c46 :: c47 :: c48 :: c49 :: c50 :: c51 :: c52 :: c53 :: c54 :: c55 :: c56 :: c57 :: c58 :: c59 :: c60 :: c61 :: c62 :: c63 :: c64 :: c65 :: c66 :: c67 :: c68 :: c69 :: c70 :: c71 :: c72 :: c73 :: c74 :: (Value.slice (some ⟨nb, 0, none⟩) hn hn) :: (Value.int IntKind.i64 (hn : Int)) :: (Value.int IntKind.i64 (0 : Int)) :: c78 :: c79 :: c80 :: c81 :: c82 :: c83 :: c84 :: c85 :: c86 :: c87 :: c88 :: c89 :: c90 :: c91 :: c92 :: c93 :: c94 :: c95 :: c96 :: c97 :: c98 :: c99 :: c100 :: c101 :: c102 :: c103 :: c104 :: c105 :: c106 :: c107 :: c108 :: c109 :: c110 :: c111 :: c112 :: c113 :: c114 :: c115 :: c116 :: c117 :: c118 :: c119 :: c120 :: c121 :: c122 :: c123 :: c124 :: c125 :: c126 :: c127 :: c128 :: c129 :: c130 :: c131 :: c132 :: c133 :: c134 :: c135 :: c136 :: c137 :: c138 :: c139 :: c140 :: c141 :: c142 :: c143 :: c144 :: c145 :: c146 :: c147 :: c148 :: c149 :: c150 :: c151 :: c152 :: c153 :: c154 :: c155 :: c156 :: c157 :: c158 :: c159 :: c160 :: c161 :: c162 :: []), []⟩ w4 := by
  conv => arg 2; arg 1; whnf
  have hrl : rb < B := by rw [← HB.out]; exact HR.out.lt
  have hnl : nb < B := by obtain ⟨cs, h, _⟩ := h1.nodes; rw [← HB.out]; exact h.lt
  have HJL : Hid (∀ j g, j < hn → jbO j = some g → g < B) := fun j g hj hg => by rw [← HB.out]; exact (h1.jn j g hj hg).lt
  have HRN : Hid (rb ∉ nb :: tab hn (fun j => (jbO j).getD nb)) := by
    intro h
    rcases mem_sj.1 h with h | ⟨j, hj, h⟩
    · exact hrn h
    · cases hb : jbO j with
      | none => rw [hb] at h; exact hrn h.symm
      | some g => rw [hb] at h; exact HJR.out j g hj hb h
  have HMN : Hid (∀ j g, j < hn → lkO j = some g → g < B ∧ g ∉ nb :: tab hn (fun j => (jbO j).getD nb)) := by
    intro j g hj hg
    have hm := HL1.out j g hj hg
    refine ⟨by rw [← HB.out]; exact hm.lt, fun h => ?_⟩
    obtain ⟨cs, hcs, _⟩ := h1.nodes
    rcases mem_sj.1 h with h | ⟨i, hi, h⟩
    · exact ne_map hcs hm h.symm
    · cases hb : jbO i with
      | none => rw [hb] at h; exact ne_map hcs hm h
      | some g' => rw [hb] at h; exact ne_map (h1.jn i g' hi hb) hm h
  go_loopg [77] hn (fun g s wr => ∃ (i : Nat) (lkN : Nat → Option Nat), g = hn - i ∧ i ≤ hn ∧ s = .int .i64 i ∧ Cp2 wr w4 hn B nb rn hid nm lkO jbO JO ls lc LO i i lkN)
  case atStart => exact ⟨0, _, rfl, by omega, rfl, h1⟩
  case round =>
    clear h1
    rename World => wa
    obtain ⟨i, lkN, rfl, hi, rfl, hC⟩ := hrel
    by_cases hil : i < hn
    · obtain ⟨cs, hcs, hN⟩ := hC.nodes
      have a0 := hcs.cell (hN.nm i hil)
      have a1 := hcs.cell (hN.lk i hil)
      have a2 := hcs.cell (hN.jv i hil)
      have a3 := hcs.cell (hN.ls i hil)
      simp only [Nat.lt_irrefl, if_false] at a1
      obtain ⟨ao, hja, hjr⟩ := jval_form (w := wa) (HJ0.out i hil) (fun g hg => by have := hC.jn i g hil hg; rw [if_neg (by omega)] at this; exact this)
      rw [hja] at a2
      have hBa : B ≤ wa.heap.size := by rw [← HB.out]; exact hC.kp.size
      have hjl := (HJX.out i hil).1
      have HJA : Hid (0 < (JO i).length → ∃ g, ao = some ⟨g, 0, none⟩ ∧ jbO i = some g) := by
        intro h0
        cases hb : jbO i with
        | none => rw [HJ0.out i hil hb] at h0; simp at h0
        | some g =>
          rw [hb] at hja
          simp [jval, slc] at hja
          exact ⟨g, hja.symm, rfl⟩
      obtain ⟨jl, hjle⟩ : ∃ jl, (JO i).length = jl := ⟨_, rfl⟩
      rw [hjle] at a2 hjl HJA
      have HJLE : Hid ((JO i).length = jl) := hjle
      obtain ⟨lk, hlk⟩ : ∃ lk, lkO i = lk := ⟨_, rfl⟩
      rw [hlk] at a1
      have HLK : Hid (lkO i = lk) := hlk
      generalize nm i = nmi at *
      generalize ls i = lsi at *
      have HC := hid_mk hC
      clear hcs hN hja hjr hjle hlk hC
      have hnil := neq_map_nil lk
      go_upto_if 84 with fail
      obtain ⟨kb, hkb⟩ : ∃ kb, wa.heap.size = kb := ⟨_, rfl⟩
      have hnd := row_new wa [Value.string nmi, Value.map lk, Value.slice ao jl jl, Value.int IntKind.i64 (lsi : Int)] 79
      have hC1 := HC.out.grow (w' := wa.alloc (Obj.cells #[Value.string nmi, Value.map lk, Value.slice ao jl jl, Value.int IntKind.i64 (lsi : Int)] 79)) hBa ((Kp.refl _ _ _).alloc (Nat.le_refl _) _)
      have hs1 : (wa.alloc (Obj.cells #[Value.string nmi, Value.map lk, Value.slice ao jl jl, Value.int IntKind.i64 (lsi : Int)] 79)).heap.size = kb + 1 := by rw [World.size_alloc, hkb]
      rw [hkb] at hnd hBa ⊢
      generalize wa.alloc (Obj.cells #[Value.string nmi, Value.map lk, Value.slice ao jl jl, Value.int IntKind.i64 (lsi : Int)] 79) = w1 at *
      have HC1 := hid_mk hC1
      have HND := hid_mk hnd
      have HS1 := hid_mk hs1
      clear a0 a1 a2 a3 hkb hnil hC1 hnd hs1 HC
      go_cut [] (fun wc => ∃ lkN', Cp2 wc w4 hn B nb rn hid nm lkO jbO JO ls lc LO (i + 1) i lkN' ∧ Row wc kb 79 [.string nmi, .map lk, .slice ao jl jl, .int .i64 (lsi : Int)] ∧ kb + 1 ≤ wc.heap.size)
      case first =>
        cases lk with
        | none =>
          have HZ : Hid (Cp2 w1 w4 hn B nb rn hid nm lkO jbO JO ls lc LO (i + 1) i (upd lkN i none)) := by
            have h := HC1.out
            obtain ⟨cs, h1, h2⟩ := h.nodes
            refine ⟨⟨cs, h1, h2.congr_lk (fun j hj => ?_)⟩, fun j hj hg => ?_, fun j g hj hg => ?_, h.jn, h.kp⟩
            · by_cases e : j = i
              · subst e; rw [if_neg (by omega), if_pos (by omega), upd_same, HLK.out]
              · rw [upd_other _ _ _ _ e]
                by_cases h3 : j < i
                · rw [if_pos h3, if_pos (by omega)]
                · rw [if_neg h3, if_neg (by omega)]
            · by_cases e : j = i
              · subst e; exact HLK.out
              · rw [upd_other _ _ _ _ e] at hg
                exact h.new0 j (by omega) hg
            · by_cases e : j = i
              · subst e; rw [upd_same] at hg; cases hg
              · rw [upd_other _ _ _ _ e] at hg
                exact h.new1 j g (by omega) hg
          go_wp2
          go_meet
          case rel => exact ⟨_, HZ.out, HND.out, by rw [HS1.out]; omega⟩
        | some g0 =>
          obtain ⟨hg0B, hg0S⟩ := HMN.out i g0 hil HLK.out
          have hm1 : MapAt kN w1 3 g0 (lc i) (fun t => if LO i t = 0 then none else some (LO i t : Int)) := (HL1.out i g0 hil HLK.out).kp HC1.out.kp hg0B hg0S
          have HM1 := hid_mk hm1
          have n1 := HND.out.cell (i := 1) rfl
          have hlen := fun ty => hm1.len (t := 77) Try.underlying77 ty
          have hlc := HLC.out i hil
          obtain ⟨lci, hlci⟩ : ∃ x, lc i = x := ⟨_, rfl⟩
          rw [hlci] at hlen hlc
          have HLCI : Hid (lc i = lci) := hlci
          obtain ⟨cs, hcs, hN⟩ := HC1.out.nodes
          have a1 := hcs.cell (hN.lk i hil)
          have f1 := hcs.frozen (i * 4 + 1)
          have a1a := (hcs.alloc (Obj.map #[] 0)).cell (hN.lk i hil)
          have f1a := (hcs.alloc (Obj.map #[] 0)).frozen (i * 4 + 1)
          have hmk := fun w => run_makeMap_hint (P := Try.prog) (t := 77) Try.underlying77 .i64 (lci : Int) w
          have hcsr := hid_mk hcs
          have HN := hid_mk hN
          have hlt1 := hcs.lt
          rw [HS1.out] at hlt1
          clear hm1 hlci hcs hN
          go_upto_region 19 with fail
          have hK2 : Kp (kb + 1) [nb] w1 ((w1.alloc (Obj.map #[] 0)).setCell ⟨nb, i * 4 + 1, none⟩ (Value.map (some w1.heap.size))) := ((Kp.refl _ _ _).alloc (by rw [HS1.out]; exact Nat.le_refl _) _).setCell (.inr (by simp)) _
          have hR2 := ((hcsr.out.alloc (Obj.map #[] 0)).set (i * 4 + 1) (Value.map (some w1.heap.size)))
          have hM2 : MapAt kN ((w1.alloc (Obj.map #[] 0)).setCell ⟨nb, i * 4 + 1, none⟩ (Value.map (some w1.heap.size))) 3 (kb + 1) 0 (fun _ => none) := by
            have h := map_made kN w1 3
            rw [HS1.out] at h
            exact h.kept (grown_set _ _ _ _) (by simp; omega)
          have hs2 : ((w1.alloc (Obj.map #[] 0)).setCell ⟨nb, i * 4 + 1, none⟩ (Value.map (some w1.heap.size))).heap.size = kb + 2 := by rw [World.size_setCell, World.size_alloc, HS1.out]
          rw [HS1.out] at hR2 hM2 hs2 hK2 ⊢
          generalize (w1.alloc (Obj.map #[] 0)).setCell ⟨nb, i * 4 + 1, none⟩ (Value.map (some (kb + 1))) = w2 at *
          have hN2 : NAt (cs.set (i * 4 + 1) (Value.map (some (kb + 1)))) hn nm (fun j => .map (if j < i + 1 then upd lkN i (some (kb + 1)) j else lkO j)) (fun j => jval (jbO j) (JO j).length) ls := by
            refine (HN.out.set1 hil (Value.map (some (kb + 1)))).congr_lk (fun j hj => ?_)
            by_cases e : j = i
            · subst e; rw [upd_same, if_pos (by omega), upd_same]
            · rw [upd_other _ _ _ _ e, upd_other _ _ _ _ e]
              by_cases h3 : j < i
              · rw [if_pos h3, if_pos (by omega)]
              · rw [if_neg h3, if_neg (by omega)]
          generalize cs.set (i * 4 + 1) (Value.map (some (kb + 1))) = cs2 at *
          have hgn : g0 ≠ nb := fun e => hg0S (by rw [e]; simp)
          have hm2 := HM1.out.kp hK2 (by omega) (by simpa using hgn)
          have hnk : kb ≠ nb := by
            intro e
            omega
          have hnd2 := HND.out.kp hK2 (by omega) (by simpa using hnk)
          have m1 := hnd2.cell (i := 1) rfl
          have HK2 := hid_mk hK2
          have HR2 := hid_mk hR2
          have HN2 := hid_mk hN2
          have HM2 := hid_mk hM2
          have HS2 := hid_mk hs2
          have HD2 := hid_mk hnd2
          obtain ⟨n0, D, hown, hsD, hspec⟩ := hm2
          have HSD := hid_mk hsD
          have HSP := hid_mk hspec
          clear a1 f1 a1a f1a n1 hlen hmk hK2 hR2 hN2 hM2 hs2 hnd2 hsD hspec hcsr HN
          go_wp2_with (first
            | (at_range; refine wpList_range_own _ rfl _ 77 rfl 3 3 keyed3 Try.underlying77 _ g0 n0 _ rfl hown ?_; intro w3 hrg0 hg0 hs0)
            | go_in)
          have hK3 : Kp (kb + 1) [nb] w1 w3 := HK2.out.grown hg0 (by rw [HS2.out]; omega) (by simp)
          have hM3 := HM2.out.kept hg0 (by simp)
          have hR3 := HR2.out.kept hg0 (by simp)
          have hD3 := HD2.out.kept hg0 (by simp)
          have hTi := HT.out i hil
          have hHas : ∀ t : Nat, t ∈ T i → Maps.has D (.int .i64 (t : Int)) = true := by
            intro t ht
            have h1 := (hTi.2.2.2 t ht).1
            have h2 := (hTi.2.2.1 t).1 ht
            have h3 := (HSP.out t _ (Maps.keyOf_int_mk Try.underlying3 (wf_small (by omega) (by omega)))).1
            rw [h3, if_neg h2]; rfl
          rw [HS2.out] at hrg0 hs0 ⊢
          have hRg0 : RgAt w3 g0 (kb + 2) n0 (kb + 1) hn D hid (LO i) (T i) (Maps.size D) := RgAt.start hrg0 hM3 hHas (fun t ht => (hTi.2.2.1 t).2 ht)
          have HK3 := hid_mk hK3
          have HR3 := hid_mk hR3
          have HD3 := hid_mk hD3
          have HTi := hid_mk hTi
          have HHas := hid_mk hHas
          have HS3 : Hid (w3.heap.size = kb + 3) := hs0
          clear hK3 hM3 hR3 hD3 hTi hHas hrg0 hs0 hg0 m1 hown HK2 HR2 HD2 HM2 HS2
          go_loopg [] (Maps.size D) (fun g wr => RgAt wr g0 (kb + 2) n0 (kb + 1) hn D hid (LO i) (T i) g ∧ Kp (kb + 1) [] w3 wr)
          case atStart => exact ⟨hRg0, Kp.refl _ _ _⟩
          case round =>
            clear hRg0
            rename World => wi
            obtain ⟨⟨left, PR, hrg, hm, hnd, hp, hl⟩, hk⟩ := hrel
            have hKw : Kp (kb + 1) [nb] w1 wi := HK3.out.trans (hk.mono (Nat.le_refl _) (by simp))
            go_wp2_with (first
              | (at_next; refine wpList_next_ranges_ii _ rfl _ rfl 3 3 .i64 .i64 keyed3 Try.underlying3 Try.underlying3 g0 (kb + 2) n0 _ _ _ rfl hrg ?_ ?_)
              | go_in)
            · intro hc0 hl0
              have hfin := RgAt.fin hm hnd hp HTi.out.1 hl0
              rw [HTi.out.2.1] at hfin
              have HZ := hid_mk (HC1.out.link HS1.out (by omega) hil hKw (HR3.out.kp hk (by omega) (by simp)) HN2.out (by omega) hfin)
              have HDz := hid_mk (HD3.out.kp hk (by omega) (by simp))
              have HSz : Hid (kb + 1 ≤ wi.heap.size) := Nat.le_trans (by rw [HS3.out]; omega) hk.size
              clear hrg hm hnd hp hl hk hKw hfin hl0
              go_wp2
              go_meet
              case rel => exact ⟨_, HZ.out, HDz.out, HSz.out⟩
            · intro x c wj cnt1 hwx hwc hlx hat hrg1 hlt hg1 hs1 hen
              obtain ⟨t, htT, hxt⟩ := map_keys hrg.owns HSD.out (T i) HTi.out.1 HTi.out.2.1 HHas.out _ (hl _ hlx)
              have hxt' : x = (t : Int) := by simpa using hxt
              subst hxt'
              obtain ⟨htn, htr, hth⟩ := HTi.out.2.2.2 t htT
              have hL0 := (HTi.out.2.2.1 t).1 htT
              have hce : c = (LO i t : Int) := by
                have h2 := (HSP.out t _ (Maps.keyOf_int_mk Try.underlying3 (wf_small (by omega) (by omega)))).2
                rw [hat, if_neg hL0] at h2
                simpa using h2
              subst hce
              have hKj : Kp (kb + 1) [] w3 wj := hk.grown hg1 (by have := hk.size; rw [HS3.out] at this; omega) (fun q hq => .inl (by cases hq; omega))
              have hKwj : Kp (kb + 1) [nb] w1 wj := HK3.out.trans (hKj.mono (Nat.le_refl _) (by simp))
              have hrbK : Kp B (nb :: tab hn (fun j => (jbO j).getD nb)) w4 wj := HC1.out.kp.trans (hKwj.mono (by omega) (by intro k _ hk; simp at hk; simp [hk]))
              have c2 := (HR.out.kp hrbK hrl HRN.out).cell (i := t) (v := .int .i64 (rn t : Int)) (nats_at (tab_at n t rn htn))
              have d1 := (HR3.out.kp hKj (by omega) (by simp)).cell (HN2.out.lk i hil)
              rw [if_pos (by omega), upd_same] at d1
              have hmd : MapAt kN wj.drew 3 (kb + 1) PR.length (lkF hn hid (LO i) left) := (hm.kept hg1 (by simp)).kept (grown_drew (grown_refl _ none)) (by simp)
              have hPRl : PR.length ≤ lc i := by
                rw [← HTi.out.2.1]
                exact len_le_of_sub hnd (fun y hy => ((hp y).1 hy).1)
              have hlc2 := HLC.out i hil
              have hLOt := HLO.out i t
              obtain ⟨lkk, hlkk⟩ := key3 (a := rn t) (by omega)
              obtain ⟨w', hrun, hg', hM'⟩ := hmd.store (t := 77) kN_inj keyed3 Try.underlying77 (by omega) hlkk (LO i t : Int) (wf_small (by omega) (by omega))
              have hgj := grown_of_drew hg'
              have HRG : Hid (RgAt w' g0 (kb + 2) n0 (kb + 1) hn D hid (LO i) (T i) cnt1) := RgAt.step HTi.out.2.2.1 htT htr hth HID.out hlx (hrg1.kept hgj (by simp; omega) (by simp)) hM' hnd hp hl
              have HK' : Hid (Kp (kb + 1) [] w3 w') := hKj.grown hgj (by have := hKj.size; rw [HS3.out] at this; omega) (fun q hq => .inl (by cases hq; omega))
              unfold kN at hrun
              generalize LO i t = lot at *
              generalize rn t = rnt at *
              clear hrg hm hnd hp hl hk hKw hat hrg1 hg1 hs1 hxt hth hKj hKwj hrbK hmd hPRl hlkk hg' hM' hgj hlx
              go_wp2_with fail
              go_region
              all_goals
                go_wp2
                go_roundg cnt1
                case measure => omega
                case rel => exact ⟨HRG.out, HK'.out⟩
      case rest =>
        obtain ⟨lkN', hC2, hnd2, hsz2⟩ := hcut
        have m2 := hnd2.cell (i := 2) rfl
        have hjx := HJX.out i hil
        have hjr2 : ∀ g, jbO i = some g → Row wc g 3 (nats (JO i)) := fun g hg => by have := hC2.jn i g hil hg; rw [if_neg (by omega)] at this; exact this
        have hcall := renumber_any wc ao (JO i) rb n (tab n rn) hjx.1 (tab_len n rn) hn1 (fun h0 => by
          rw [HJLE.out] at h0
          obtain ⟨g, hg1, hg2⟩ := HJA.out h0
          exact ⟨g, hg1, HJR.out i g hil hg2, hjr2 g hg2⟩) (HR.out.kp hC2.kp hrl HRN.out) hjx.2
        rw [map_tabF hjx.2, HJLE.out] at hcall
        have HC2 := hid_mk hC2
        have HJ := hid_mk hjx
        clear hC2 hnd2 hjx hjr2
        go_wp2_with (first
          | (go_at_call 54; refine hcall.mono ?_; rintro _ w5 ⟨rfl, hp1, hp2⟩)
          | go_in)
        have HC3 : Hid (Cp2 w5 w4 hn B nb rn hid nm lkO jbO JO ls lc LO (i + 1) (i + 1) lkN') := by
          refine HC2.out.num (by omega) hil (by omega) (HJ0.out i hil) HJI.out (fun g hg h0 => ?_) (fun h0 => hp2 (by rw [← HJLE.out]; exact h0))
          rw [HJLE.out] at h0
          obtain ⟨g', hg1, hg2⟩ := HJA.out h0
          rw [hg] at hg2; cases hg2
          exact hp1 g hg1 h0
        clear hp1 hp2 hcall m2
        go_wp2
        go_roundg (hn - (i + 1))
        case measure => omega
        case rel => exact ⟨i + 1, lkN', rfl, by omega, by go_num, HC3.out⟩
    · have e : hn = i := by omega
      subst e
      have HC := hid_mk hC
      clear hC
      go_wp2
      apply HX.out
      exact ⟨lkN, HC.out⟩
end Go.Proofs.Qxb6600010a
