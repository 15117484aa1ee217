/-
  SMALL LAWS ON MEMORY: a row as a whole block, slices that own a row, maps as functions of the key.
-/
import Derived.Test.Qxb6600010aRows
import Derived.WalkKit
import Derived.Deep.AppendLies
import Derived.Deep.OwnRows
import Derived.Deep.Draws
import Derived.Maps.OwnSet
import Derived.Maps.OwnOps
import Derived.WideKeyPair
import Derived.DeepKeys4
namespace Go.Proofs.Qxb6600010a
open Go.RowKit

/-! ### Closed facts -/
theorem laidOut : laidOutB Try.prog = true := by kernel_rfl
theorem info3 : (Try.prog.info? 3).map (fun i => (i.zero, i.size, i.bytes)) = some (some (.int .i64 0), 1, 8) := by kernel_rfl
theorem info4 : (Try.prog.info? 4).map (fun i => (i.zero, i.size, i.bytes)) = some (some (.bool false), 1, 1) := by kernel_rfl
theorem info9 : (Try.prog.info? 9).map (fun i => (i.zero, i.size, i.bytes)) = some (some (.string ⟨#[]⟩), 1, 16) := by kernel_rfl
theorem info23 : (Try.prog.info? 23).map (fun i => (i.zero, i.size, i.bytes)) = some (some (.slice none 0 0), 1, 24) := by kernel_rfl
theorem zero3 (w : World) : (zeroValue 3).run Try.prog w = .ok (.int .i64 0) w := by kernel_rfl

/-! ### The world's steps -/
theorem grown_set (w : World) (b o : Nat) (v : Value) : w.grownBy (w.setCell ⟨b, o, none⟩ v) (some b) :=
  ⟨rfl, rfl, rfl, by simp, fun k _ hk => heap_setCell_other w ⟨b, o, none⟩ k v (fun e => hk (by simp [e]))⟩
theorem grown_refl (w : World) (row : Option Nat) : w.grownBy w row := ⟨rfl, rfl, rfl, Nat.le_refl _, fun _ _ _ => rfl⟩
theorem grown_drew {w w' : World} {row : Option Nat} (h : w.grownBy w' row) : w.grownBy w'.drew row := ⟨h.os, h.tape, h.output, h.size, h.block⟩
theorem grown_drewN {w w' : World} {row : Option Nat} (h : w.grownBy w' row) (n : Nat) : w.grownBy (w'.drewN n) row := ⟨h.os, h.tape, h.output, h.size, h.block⟩
theorem grown_of_drew {w w' : World} {row : Option Nat} (h : w.drew.grownBy w' row) : w.grownBy w' row := ⟨h.os, h.tape, h.output, h.size, h.block⟩
theorem grown_any {w w' : World} (h : w.grownBy w' none) (row : Option Nat) : w.grownBy w' row := ⟨h.os, h.tape, h.output, h.size, fun k hk _ => h.block k hk (by simp)⟩
theorem grown_below {w w' : World} (h : Below w.heap.size w w') (row : Option Nat) : w.grownBy w' row := ⟨h.os, h.tape, h.output, h.size, fun k hk _ => h.block k hk⟩
theorem below_drewN {B : Nat} {a w : World} (h : Below B a w) (n : Nat) : Below B a (w.drewN n) := ⟨h.os, h.tape, h.output, h.size, h.block⟩
theorem below_of_grown {w w' : World} (h : w.grownBy w' none) : Below w.heap.size w w' := ⟨h.os, h.tape, h.output, h.size, fun k hk => h.block k hk (by simp)⟩

/-! ### A row that is a whole block -/
def Row (w : World) (b : Nat) (e : TypeId) (xs : List Value) : Prop := w.heap[b]? = some (.cells xs.toArray e (0, 0))

theorem Row.lt {w : World} {b : Nat} {e : TypeId} {xs : List Value} (h : Row w b e xs) : b < w.heap.size := lt_of_block h
theorem Row.cell {w : World} {b : Nat} {e : TypeId} {xs : List Value} (h : Row w b e xs) {i : Nat} {v : Value} (hi : xs[i]? = some v) : w.cell? ⟨b, i, none⟩ = some v := by
  unfold Row at h
  simp [World.cell?, h, hi]
theorem Row.frozen {w : World} {b : Nat} {e : TypeId} {xs : List Value} (h : Row w b e xs) (i : Nat) : w.frozen? ⟨b, i, none⟩ = false := by
  unfold Row at h
  simp [World.frozen?, h]
theorem Row.set {w : World} {b : Nat} {e : TypeId} {xs : List Value} (h : Row w b e xs) (i : Nat) (v : Value) : Row (w.setCell ⟨b, i, none⟩ v) b e (xs.set i v) := by
  unfold Row at h ⊢
  simp only [World.setCell, Array.getElem?_modify]
  simp [h]
theorem Row.kept {w w' : World} {row : Option Nat} {b : Nat} {e : TypeId} {xs : List Value} (h : Row w b e xs) (hg : w.grownBy w' row) (hne : some b ≠ row) : Row w' b e xs := by
  unfold Row; rw [hg.block b h.lt hne]; exact h
theorem Row.below {w w' : World} {B b : Nat} {e : TypeId} {xs : List Value} (h : Row w b e xs) (hb : Below B w w') (hlt : b < B) : Row w' b e xs := by
  unfold Row; rw [hb.block b hlt]; exact h
theorem Row.alloc {w : World} {b : Nat} {e : TypeId} {xs : List Value} (h : Row w b e xs) (o : Obj) : Row (w.alloc o) b e xs := h.kept (World.grownBy_alloc w o none) (by simp)
theorem Row.drew {w : World} {b : Nat} {e : TypeId} {xs : List Value} (h : Row w b e xs) : Row w.drew b e xs := h
theorem Row.drewN {w : World} {b : Nat} {e : TypeId} {xs : List Value} (h : Row w b e xs) (n : Nat) : Row (w.drewN n) b e xs := h
theorem Row.setOther {w : World} {b : Nat} {e : TypeId} {xs : List Value} (h : Row w b e xs) {c o : Nat} (hne : b ≠ c) (v : Value) : Row (w.setCell ⟨c, o, none⟩ v) b e xs := h.kept (grown_set w c o v) (by simpa using hne)
theorem row_new (w : World) (xs : List Value) (e : TypeId) : Row (w.alloc (.cells xs.toArray e)) w.heap.size e xs := heap_alloc_new w _
theorem row_made (w : World) (z : Value) (n : Nat) (e : TypeId) : Row (w.alloc (.cells (madeCells #[z] n) e)) w.heap.size e (List.replicate n z) := by
  have h : (madeCells #[z] n) = (List.replicate n z).toArray := by
    rw [← toList_madeCells_one]
  rw [h]; exact row_new w _ e
theorem Row.owns {w : World} {b base : Nat} {e : TypeId} {xs : List Value} (h : Row w b e xs) (hb : base ≤ b) (hm : xs.length ≤ maxLen) : w.ownsRow base e 1 (.slice (some ⟨b, 0, none⟩) xs.length xs.length) xs.length xs :=
  ⟨by simp, .inr ⟨b, xs.length, xs.toArray, rfl, hb, h, Nat.le_refl _, hm, by simp, by simp⟩⟩

/-! ### All old blocks but some are as they were -/
structure Kp (B : Nat) (S : List Nat) (w w' : World) : Prop where
  os : w'.os = w.os
  tape : w'.tape = w.tape
  output : w'.output = w.output
  size : w.heap.size ≤ w'.heap.size
  block : ∀ k, k < B → k ∉ S → w'.heap[k]? = w.heap[k]?
theorem Kp.refl (B : Nat) (S : List Nat) (w : World) : Kp B S w w := ⟨rfl, rfl, rfl, Nat.le_refl _, fun _ _ _ => rfl⟩
theorem Kp.trans {B : Nat} {S : List Nat} {a b c : World} (h : Kp B S a b) (k : Kp B S b c) : Kp B S a c :=
  ⟨k.os.trans h.os, k.tape.trans h.tape, k.output.trans h.output, Nat.le_trans h.size k.size, fun i hi hn => (k.block i hi hn).trans (h.block i hi hn)⟩
theorem Kp.mono {B B' : Nat} {S S' : List Nat} {a b : World} (h : Kp B S a b) (hB : B' ≤ B) (hS : ∀ k, k < B' → k ∈ S → k ∈ S') : Kp B' S' a b :=
  ⟨h.os, h.tape, h.output, h.size, fun k hk hn => h.block k (by omega) (fun hm => hn (hS k hk hm))⟩
theorem Kp.alloc {B : Nat} {S : List Nat} {a w : World} (h : Kp B S a w) (hB : B ≤ w.heap.size) (o : Obj) : Kp B S a (w.alloc o) :=
  h.trans ⟨rfl, rfl, rfl, by simp, fun k hk _ => Below.heap_alloc _ _ _ (by omega)⟩
theorem Kp.setCell {B : Nat} {S : List Nat} {a w : World} (h : Kp B S a w) {b o : Nat} (hb : B ≤ b ∨ b ∈ S) (v : Value) : Kp B S a (w.setCell ⟨b, o, none⟩ v) :=
  h.trans ⟨rfl, rfl, rfl, by simp, fun k hk hn => heap_setCell_other w ⟨b, o, none⟩ k v (fun e => by
    have e' : k = b := e
    subst e'
    rcases hb with hb | hb
    · omega
    · exact hn hb)⟩
theorem Kp.grown {B : Nat} {S : List Nat} {a w w' : World} {row : Option Nat} (h : Kp B S a w) (hg : w.grownBy w' row) (hB : B ≤ w.heap.size) (hr : ∀ k, row = some k → B ≤ k ∨ k ∈ S) : Kp B S a w' :=
  h.trans ⟨hg.os, hg.tape, hg.output, hg.size, fun k hk hn => hg.block k (by omega) (fun e => by
    rcases hr k e.symm with h1 | h1
    · omega
    · exact hn h1)⟩
theorem Kp.drewN {B : Nat} {S : List Nat} {a w : World} (h : Kp B S a w) (n : Nat) : Kp B S a (w.drewN n) := ⟨h.os, h.tape, h.output, h.size, h.block⟩
theorem Kp.drew {B : Nat} {S : List Nat} {a w : World} (h : Kp B S a w) : Kp B S a w.drew := ⟨h.os, h.tape, h.output, h.size, h.block⟩
theorem Kp.below {B : Nat} {a w : World} (h : Kp B [] a w) : Below B a w := ⟨h.os, h.tape, h.output, h.size, fun k hk => h.block k hk (by simp)⟩
theorem Below.kp {B : Nat} {a w : World} (h : Below B a w) (S : List Nat) : Kp B S a w := ⟨h.os, h.tape, h.output, h.size, fun k hk _ => h.block k hk⟩
theorem Row.kp {w w' : World} {B b : Nat} {S : List Nat} {e : TypeId} {xs : List Value} (h : Row w b e xs) (hk : Kp B S w w') (hlt : b < B) (hn : b ∉ S) : Row w' b e xs := by
  unfold Row; rw [hk.block b hlt hn]; exact h

/-- Ints, as cells. -/
def ints (xs : List Int) : List Value := xs.map (Value.int .i64)
theorem ints_len (xs : List Int) : (ints xs).length = xs.length := by simp [ints]
theorem ints_at {xs : List Int} {i : Nat} {x : Int} (h : xs[i]? = some x) : (ints xs)[i]? = some (.int .i64 x) := by simp [ints, h]
theorem ints_set (xs : List Int) (i : Nat) (x : Int) : (ints xs).set i (.int .i64 x) = ints (xs.set i x) := by simp [ints, List.map_set]
theorem ints_snoc (xs : List Int) (x : Int) : ints (xs ++ [x]) = ints xs ++ [.int .i64 x] := by simp [ints]
theorem ints_replicate (n : Nat) (x : Int) : List.replicate n (Value.int .i64 x) = ints (List.replicate n x) := by simp [ints]

/-- Numbers of nodes, strings, as cells. -/
def nats (xs : List Nat) : List Value := xs.map fun x : Nat => Value.int .i64 (x : Int)
def strs (xs : List ByteArray) : List Value := xs.map Value.string
def bools (xs : List Bool) : List Value := xs.map Value.bool
theorem nats_len (xs : List Nat) : (nats xs).length = xs.length := by simp [nats]
theorem strs_len (xs : List ByteArray) : (strs xs).length = xs.length := by simp [strs]
theorem bools_len (xs : List Bool) : (bools xs).length = xs.length := by simp [bools]
theorem nats_at {xs : List Nat} {i : Nat} {x : Nat} (h : xs[i]? = some x) : (nats xs)[i]? = some (.int .i64 (x : Int)) := by simp [nats, h]
theorem strs_at {xs : List ByteArray} {i : Nat} {x : ByteArray} (h : xs[i]? = some x) : (strs xs)[i]? = some (.string x) := by simp [strs, h]
theorem bools_at {xs : List Bool} {i : Nat} {x : Bool} (h : xs[i]? = some x) : (bools xs)[i]? = some (.bool x) := by simp [bools, h]
theorem nats_set (xs : List Nat) (i : Nat) (x : Nat) : (nats xs).set i (.int .i64 (x : Int)) = nats (xs.set i x) := by simp [nats, List.map_set]
theorem bools_set (xs : List Bool) (i : Nat) (x : Bool) : (bools xs).set i (.bool x) = bools (xs.set i x) := by simp [bools, List.map_set]
theorem nats_snoc (xs : List Nat) (x : Nat) : nats (xs ++ [x]) = nats xs ++ [.int .i64 (x : Int)] := by simp [nats]
theorem nats_replicate (n x : Nat) : List.replicate n (Value.int .i64 (x : Int)) = nats (List.replicate n x) := by simp [nats]
theorem at_left {xs ys : List Value} {i : Nat} {v : Value} (h : xs[i]? = some v) : (xs ++ ys)[i]? = some v := by
  rw [List.getElem?_append_left (List.getElem?_eq_some_iff.1 h).1]; exact h
theorem set_left {xs ys : List Value} {i : Nat} {v : Value} (h : i < xs.length) : (xs ++ ys).set i v = xs.set i v ++ ys := List.set_append_left _ _ h

theorem one_at {w : World} {v : Value} {g : Nat} (h : w.cell? ⟨g, 0, none⟩ = some v) : ∀ (j : Nat) (u : Value), [v][j]? = some u → w.cell? ((⟨g, 0, none⟩ : Addr).add j) = some u := by
  intro j u hj
  match j, hj with
  | 0, hj => simp at hj; subst hj; simpa [Addr.add] using h

/-- What a value looks like that owns a row; its cells. -/
theorem owns_form {w : World} {base e n : Nat} {v : Value} {xs : List Value} (h : w.ownsRow base e 1 v n xs) :
    ∃ ao cap, v = .slice ao n cap ∧ (0 < n → ∃ g, ao = some ⟨g, 0, none⟩ ∧ base ≤ g ∧ g < w.heap.size ∧ ∀ j u, xs[j]? = some u → w.cell? ⟨g, j, none⟩ = some u) := by
  rcases h.2 with ⟨rfl, h0⟩ | ⟨g, cap, cur, hv, hb, hg, _⟩
  · subst h0; exact ⟨none, 0, rfl, by omega⟩
  · refine ⟨_, cap, hv, fun _ => ⟨g, rfl, hb, lt_of_block hg, fun j u hu => ?_⟩⟩
    have := h.cells (g := g) (by simp [hv, Value.ownBlock]) j u hu
    rwa [Addr.add_lit, Nat.zero_add] at this
theorem owns_block {w : World} {base e size n : Nat} {v : Value} {xs : List Value} (h : w.ownsRow base e size v n xs) (k : Nat) (hk : v.ownBlock = some k) :
    base ≤ k ∧ k < w.heap.size ∧ ∃ cur, w.heap[k]? = some (.cells cur e (0, 0)) := by
  rcases h.2 with ⟨rfl, h0⟩ | ⟨g, cap, cur, rfl, hb, hg, _⟩
  · simp [Value.ownBlock] at hk
  · simp [Value.ownBlock] at hk
    subst hk
    exact ⟨hb, lt_of_block hg, cur, hg⟩
theorem owns_below {w w' : World} {B base e size n : Nat} {v : Value} {xs : List Value} (h : w.ownsRow base e size v n xs) (hb : Below B w w') (hlt : ∀ k, v.ownBlock = some k → k < B) : w'.ownsRow base e size v n xs := by
  refine ⟨h.1, ?_⟩
  rcases h.2 with h0 | ⟨g, cap, cur, rfl, hbg, hg, r⟩
  · exact .inl h0
  · exact .inr ⟨g, cap, cur, rfl, hbg, by rw [hb.block g (hlt g rfl)]; exact hg, r⟩
theorem owns_kp {w w' : World} {B base e size n : Nat} {S : List Nat} {v : Value} {xs : List Value} (h : w.ownsRow base e size v n xs) (hb : Kp B S w w') (hlt : ∀ k, v.ownBlock = some k → k < B ∧ k ∉ S) : w'.ownsRow base e size v n xs := by
  refine ⟨h.1, ?_⟩
  rcases h.2 with h0 | ⟨g, cap, cur, rfl, hbg, hg, r⟩
  · exact .inl h0
  · exact .inr ⟨g, cap, cur, rfl, hbg, by rw [hb.block g (hlt g rfl).1 (hlt g rfl).2]; exact hg, r⟩
theorem owns_base {w : World} {base base' e size n : Nat} {v : Value} {xs : List Value} (h : w.ownsRow base e size v n xs) (hb : base' ≤ base) : w.ownsRow base' e size v n xs := by
  refine ⟨h.1, ?_⟩
  rcases h.2 with h0 | ⟨g, cap, cur, rfl, hbg, r⟩
  · exact .inl h0
  · exact .inr ⟨g, cap, cur, rfl, Nat.le_trans hb hbg, r⟩

/-! ### Maps to ints, as functions of the key -/
/-- Block b is a map with c entries; at the key E x stands f x. -/
def MapAt {κ : Type} (E : κ → Value) (w : World) (k : TypeId) (b c : Nat) (f : κ → Option Int) : Prop :=
  ∃ (n : Nat) (D : DataW Unit), w.ownsMap Try.prog k (plainElem Try.prog 3) b n D ∧ Maps.size D = c ∧
    ∀ x l, keyOf Try.prog k (E x) = some l → Maps.has D l = (f x).isSome ∧ D.atKey l (.lit (.int .i64 0)) = .lit (.int .i64 ((f x).getD 0))

theorem wf_small {x : Int} (h1 : -9223372036854775808 ≤ x) (h2 : x ≤ 9223372036854775807) : (Lit.int .i64 x).wf = true := WalkArith.wf_i64 (by omega)

section
variable {κ : Type} {E : κ → Value} {w : World} {t k b c : Nat} {f : κ → Option Int} {v : κ} {l : Lit}

theorem MapAt.lt (h : MapAt E w k b c f) : b < w.heap.size := by
  obtain ⟨n, D, h1, _⟩ := h; exact h1.lt
theorem MapAt.kept {w' : World} {row : Option Nat} (h : MapAt E w k b c f) (hg : w.grownBy w' row) (hne : some b ≠ row) : MapAt E w' k b c f := by
  obtain ⟨n, D, h1, h2⟩ := h; exact ⟨n, D, h1.kept hg hne, h2⟩
theorem MapAt.below {w' : World} {B : Nat} (h : MapAt E w k b c f) (hb : Below B w w') (hlt : b < B) : MapAt E w' k b c f := by
  obtain ⟨n, D, ⟨es, clock, h1, h2⟩, h3⟩ := h; exact ⟨n, D, ⟨es, clock, by rw [hb.block b hlt]; exact h1, h2⟩, h3⟩
theorem MapAt.kp {w' : World} {B : Nat} {S : List Nat} (h : MapAt E w k b c f) (hb : Kp B S w w') (hlt : b < B) (hn : b ∉ S) : MapAt E w' k b c f := by
  obtain ⟨n, D, ⟨es, clock, h1, h2⟩, h3⟩ := h; exact ⟨n, D, ⟨es, clock, by rw [hb.block b hlt hn]; exact h1, h2⟩, h3⟩
theorem MapAt.congr {g : κ → Option Int} (h : MapAt E w k b c f) (he : ∀ x, f x = g x) : MapAt E w k b c g := by
  have : f = g := funext he
  subst this; exact h
theorem map_made (E : κ → Value) (w : World) (k : TypeId) : MapAt E (w.alloc (.map #[] 0)) k w.heap.size 0 (fun _ => none) :=
  ⟨0, .map [], World.ownsMap_made w _ _ _, rfl, fun v l _ => ⟨by simp [Maps.has], by simp [DataW.atKey]⟩⟩

theorem MapAt.look (h : MapAt E w k b c f) (K : Maps.Keyed Try.prog k) (ht : Try.prog.underlying t = some (.map k 3)) (hl : keyOf Try.prog k (E v) = some l) :
    (Instr.lookup t (.map (some b)) (E v) false).run Try.prog w = .ok (.int .i64 ((f v).getD 0)) w := by
  obtain ⟨n, D, h1, h2, h3⟩ := h
  obtain ⟨x, hrun, hat, _⟩ := h1.lookup_int K ht Try.underlying3 (zero3 w) hl
  rw [(h3 v l hl).2] at hat
  simp only [DataW.lit.injEq, Lit.int.injEq, true_and] at hat
  rw [hrun, hat]

theorem MapAt.look_ok (h : MapAt E w k b c f) (K : Maps.Keyed Try.prog k) (ht : Try.prog.underlying t = some (.map k 3)) (hl : keyOf Try.prog k (E v) = some l) :
    (Instr.lookup t (.map (some b)) (E v) true).run Try.prog w = .ok (.tuple #[.int .i64 ((f v).getD 0), .bool (f v).isSome]) w := by
  obtain ⟨n, D, h1, h2, h3⟩ := h
  obtain ⟨x, ps, hrun, hR⟩ := h1.look_ok K ht (zero3 w) (plainElem_int Try.underlying3 (by decide)) hl
  obtain ⟨a, rfl, hz, _⟩ := plainElem_int_inv Try.underlying3 hR
  simp only [Prod.mk.injEq] at hz
  rw [(h3 v l hl).2] at hz
  simp only [DataW.lit.injEq, Lit.int.injEq, true_and] at hz
  rw [hrun, (h3 v l hl).1, hz.1]

theorem MapAt.len (h : MapAt E w k b c f) (ht : Try.prog.underlying t = some (.map k 3)) (ty : TypeId) : (Builtin.len_ #[t] ty #[.map (some b)]).run Try.prog w = .ok (.int .i64 (c : Int)) w := by
  obtain ⟨n, D, h1, h2, h3⟩ := h
  rw [h1.len ht ty, h2]

theorem MapAt.store [DecidableEq κ] (h : MapAt E w k b c f) (hE : ∀ x y, E x = E y → x = y) (K : Maps.Keyed Try.prog k) (ht : Try.prog.underlying t = some (.map k 3)) (hc : c < 9000000000000000000) (hl : keyOf Try.prog k (E v) = some l) (x : Int) (hx : (Lit.int .i64 x).wf = true) :
    ∃ w', (Instr.mapUpdate t (.map (some b)) (E v) (.int .i64 x)).run Try.prog w = .ok () w' ∧ w.grownBy w' (some b) ∧ MapAt E w' k b (if (f v).isSome then c else c + 1) (fun u => if u = v then some x else f u) := by
  obtain ⟨n, D, h1, h2, h3⟩ := h
  have h1' : w.ownsMap Try.prog k (plainElem Try.prog 3) b c D := by
    obtain ⟨es, clock, hb, F, hs, hD⟩ := h1
    refine ⟨es, clock, hb, F, ?_, hD⟩
    rw [← h2, hD]; simp [Maps.size, length_sorted]
  obtain ⟨w', hrun, h4, h5⟩ := h1'.store K ht (by unfold maxLen; omega) hl (plainElem_int Try.underlying3 hx)
  refine ⟨w', hrun, h5.grown, c + 1, _, h4, ?_, fun u lu hu => ?_⟩
  · rw [Maps.size_put (h1.tidy K), (h3 v l hl).1, h2]
  · have hkl := K.key hl
    by_cases e : u = v
    · subst e
      rw [hl] at hu; cases hu
      rw [Maps.has_put_same h1.isMap hkl, Maps.atKey_put_same h1.isMap hkl]
      simp
    · have hne : lu ≠ l := fun e' => e (hE _ _ (K.inj (e' ▸ hu) hl))
      rw [Maps.has_put_other hne, Maps.atKey_put_other hne]
      simp only [if_neg e]
      exact h3 u lu hu

theorem MapAt.drop [DecidableEq κ] (h : MapAt E w k b c f) (hE : ∀ x y, E x = E y → x = y) (K : Maps.Keyed Try.prog k) (ht : Try.prog.underlying t = some (.map k 3)) (hl : keyOf Try.prog k (E v) = some l) (hin : (f v).isSome = true) (ty : TypeId) :
    ∃ w', (Builtin.delete_ #[t, k] ty #[.map (some b), E v]).run Try.prog w = .ok (.tuple #[]) w' ∧ w.grownBy w' (some b) ∧ MapAt E w' k b (c - 1) (fun u => if u = v then none else f u) := by
  obtain ⟨n, D, h1, h2, h3⟩ := h
  obtain ⟨w', hrun, h4, h5⟩ := h1.drop K ht hl ty
  refine ⟨w', hrun, h5.grown, n, _, h4, ?_, fun u lu hu => ?_⟩
  · have := Maps.size_del (k := l) (h1.tidy K)
    rw [(h3 v l hl).1, hin, h2] at this
    simp at this
    omega
  · by_cases e : u = v
    · subst e
      rw [hl] at hu; cases hu
      rw [Maps.has_del_same, Maps.atKey_del_same]
      simp
    · have hne : lu ≠ l := fun e' => e (hE _ _ (K.inj (e' ▸ hu) hl))
      rw [Maps.has_del_other hne, Maps.atKey_del_other hne]
      simp only [if_neg e]
      exact h3 u lu hu
end

/-! ### The three kinds of keys -/
/-- A number, a pair of numbers, a string, as a key. -/
def kN (x : Nat) : Value := .int .i64 (x : Int)
def kP (p : Nat × Nat) : Value := .agg #[.int .i64 (p.1 : Int), .int .i64 (p.2 : Int)]
def kS (s : ByteArray) : Value := .string s
theorem kN_inj (x y : Nat) (h : kN x = kN y) : x = y := by simp [kN] at h; omega
theorem kP_inj (x y : Nat × Nat) (h : kP x = kP y) : x = y := by simp [kP] at h; exact Prod.ext (by omega) (by omega)
theorem kS_inj (x y : ByteArray) (h : kS x = kS y) : x = y := by simpa [kS] using h
theorem keyed3 : Maps.Keyed Try.prog 3 := Maps.int_keyed Try.underlying3
theorem keyed9 : Maps.Keyed Try.prog 9 := Maps.string_keyed Try.underlying9
theorem arr41 : WideMaps.ArrKey Try.prog 41 3 2 := ⟨Try.underlying41, by kernel_rfl, by kernel_rfl, by kernel_rfl⟩
theorem wide41 : (match Try.prog.underlying 41 with | some (.array _ _) | some (.struct _) => true | _ => false) = true := by rw [Try.underlying41]
theorem row41 : (41 : TypeId) < Try.prog.types.size := of_decide_eq_true (by kernel_rfl)
theorem kt41 : Try.prog.keyTypeAt 2 41 = true := by kernel_rfl
set_option maxRecDepth 100000 in
theorem keyed41 : Maps.Keyed Try.prog 41 := Maps.Keyed.of_law (deep_law_laid laidOut (m := 2) (by omega) row41 kt41 wide41)
theorem key3 {a : Nat} (h : a ≤ 1000000000) : ∃ l, keyOf Try.prog 3 (kN a) = some l := ⟨_, Maps.keyOf_int_mk Try.underlying3 (wf_small (by omega) (by omega))⟩
theorem key9 {s : ByteArray} (h : s.size ≤ maxLen) : ∃ l, keyOf Try.prog 9 (kS s) = some l := ⟨_, WideMaps.keyOf_string_mk Try.underlying9 h⟩
theorem pos_succ {n : Nat} (h : 41 < n) : ∃ m, n = m + 1 := ⟨n - 1, by omega⟩
theorem sz41 : ∃ m, Try.prog.types.size = m + 1 := pos_succ row41
theorem key41 {p : Nat × Nat} (ha : p.1 ≤ 1000000000) (hb : p.2 ≤ 1000000000) : ∃ l, keyOf Try.prog 41 (kP p) = some l :=
  ⟨_, WideMaps.keyOf_pair arr41 Try.underlying3 sz41 (wf_small (by omega) (by omega)) (wf_small (by omega) (by omega))⟩

end Go.Proofs.Qxb6600010a
