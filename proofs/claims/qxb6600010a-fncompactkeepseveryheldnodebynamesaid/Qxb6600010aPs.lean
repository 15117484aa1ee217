/-
  A Paths IN MEMORY: the struct, its row of nodes, its row of paths, the maps and lists that hang on them.
-/
import Derived.Test.Qxb6600010aMeshAt
namespace Go.Proofs.Qxb6600010a
open Go.RowKit
set_option linter.unusedVariables false
set_option linter.unusedSimpArgs false

/-! ### Closed facts -/
theorem info70 : (Try.prog.info? 70).map (fun i => (i.zero, i.size, i.bytes)) = some (some (.agg #[.int .i64 0, .int .i64 0, .int .i64 0]), 3, 24) := by kernel_rfl
theorem info79 : (Try.prog.info? 79).map (fun i => (i.zero, i.size, i.bytes)) = some (some (.agg #[.string ⟨#[]⟩, .map none, .slice none 0 0, .int .i64 0]), 4, 56) := by kernel_rfl
theorem info45 : (Try.prog.info? 45).map (fun i => (i.zero, i.size, i.bytes)) = some (some (.agg #[.string ⟨#[]⟩, .int .i64 0, .string ⟨#[]⟩]), 3, 40) := by kernel_rfl

theorem run_make_wide {P : Program} (t e : TypeId) (z : Value) (size bytes : Nat) (ht : P.underlying t = some (.slice e)) (hinfo : (P.info? e).map (fun i => (i.zero, i.size, i.bytes)) = some (some z, size, bytes))
    (kl kc : IntKind) (n : Nat) (hbytes : bytes * n ≤ 281474976710656) (h63 : n ≤ 9223372036854775807) (w : World) :
    (Instr.makeSlice t (.int kl (n : Int)) (.int kc (n : Int))).run P w = .ok (.slice (some ⟨w.heap.size, 0, none⟩) n n) (w.alloc (.cells (madeCells z.cells (n * size)) e)) := by
  obtain ⟨i, hi, hzz⟩ := Option.map_eq_some_iff.1 hinfo
  simp only [Prod.mk.injEq] at hzz
  obtain ⟨hz, hs, hb⟩ := hzz
  have hb' : (i.bytes : Int) * (n : Int) ≤ 281474976710656 := by
    have h : ((i.bytes * n : Nat) : Int) ≤ 281474976710656 := by rw [hb]; omega
    rwa [Int.natCast_mul] at h
  have hr := run_make (P := P) w t e i z ht hi hz kl kc n n (by omega) (Int.le_refl _) hb' (by omega)
  simp only [Int.toNat_natCast, hs] at hr
  exact hr

theorem made_at (z : List Value) (n k i : Nat) (v : Value) (hk : k < n) (hi : z[i]? = some v) : (madeCells z.toArray (n * z.length)).toList[k * z.length + i]? = some v := by
  have hil : i < z.length := (List.getElem?_eq_some_iff.1 hi).1
  have hlt : k * z.length + i < n * z.length := by
    have : (k + 1) * z.length ≤ n * z.length := Nat.mul_le_mul_right _ hk
    rw [Nat.add_mul] at this
    omega
  have hmod : (k * z.length + i) % z.length = i := by
    rw [Nat.add_comm, Nat.add_mul_mod_self_right, Nat.mod_eq_of_lt hil]
  unfold madeCells
  simp [hlt, hmod]
  obtain ⟨h1, h2⟩ := List.getElem?_eq_some_iff.1 hi
  rw [← h2]
  simp [hil]
theorem row_madeW (w : World) (z : List Value) (n : Nat) (e : TypeId) : Row (w.alloc (.cells (madeCells z.toArray n) e)) w.heap.size e (madeCells z.toArray n).toList := by
  have := row_new w (madeCells z.toArray n).toList e
  simpa using this

/-! ### The row of nodes: four cells a node -/
structure NAt (cs : List Value) (n : Nat) (nm : Nat → ByteArray) (lk jv : Nat → Value) (ls : Nat → Nat) : Prop where
  len : cs.length = n * 4
  nm : ∀ k, k < n → cs[k * 4]? = some (.string (nm k))
  lk : ∀ k, k < n → cs[k * 4 + 1]? = some (lk k)
  jv : ∀ k, k < n → cs[k * 4 + 2]? = some (jv k)
  ls : ∀ k, k < n → cs[k * 4 + 3]? = some (.int .i64 (ls k : Int))

/-- f with another value at k. -/
def upd {α : Type} (f : Nat → α) (k : Nat) (v : α) : Nat → α := fun j => if j = k then v else f j
theorem upd_same {α : Type} (f : Nat → α) (k : Nat) (v : α) : upd f k v k = v := by simp [upd]
theorem upd_other {α : Type} (f : Nat → α) (k j : Nat) (v : α) (h : j ≠ k) : upd f k v j = f j := by simp [upd, h]

theorem set_at (cs : List Value) (i j : Nat) (v : Value) (h : i < cs.length) : (cs.set i v)[j]? = if j = i then some v else cs[j]? := by
  rw [List.getElem?_set]
  by_cases e : j = i
  · subst e; simp [h]
  · rw [if_neg (fun e' => e e'.symm), if_neg e]

section
variable {cs : List Value} {n k : Nat} {nm : Nat → ByteArray} {lk jv : Nat → Value} {ls : Nat → Nat}
theorem NAt.set0 (h : NAt cs n nm lk jv ls) (hk : k < n) (x : ByteArray) : NAt (cs.set (k * 4) (.string x)) n (upd nm k x) lk jv ls := by
  have hl := h.len
  refine ⟨by simp [h.len], fun j hj => ?_, fun j hj => ?_, fun j hj => ?_, fun j hj => ?_⟩ <;> rw [set_at _ _ _ _ (by omega)]
  · unfold upd
    by_cases e : j = k
    · subst e; simp
    · rw [if_neg (by omega), if_neg e]; exact h.nm j hj
  · rw [if_neg (by omega)]; exact h.lk j hj
  · rw [if_neg (by omega)]; exact h.jv j hj
  · rw [if_neg (by omega)]; exact h.ls j hj
theorem NAt.set1 (h : NAt cs n nm lk jv ls) (hk : k < n) (x : Value) : NAt (cs.set (k * 4 + 1) x) n nm (upd lk k x) jv ls := by
  have hl := h.len
  refine ⟨by simp [h.len], fun j hj => ?_, fun j hj => ?_, fun j hj => ?_, fun j hj => ?_⟩ <;> rw [set_at _ _ _ _ (by omega)]
  · rw [if_neg (by omega)]; exact h.nm j hj
  · unfold upd
    by_cases e : j = k
    · subst e; simp
    · rw [if_neg (by omega), if_neg e]; exact h.lk j hj
  · rw [if_neg (by omega)]; exact h.jv j hj
  · rw [if_neg (by omega)]; exact h.ls j hj
theorem NAt.set2 (h : NAt cs n nm lk jv ls) (hk : k < n) (x : Value) : NAt (cs.set (k * 4 + 2) x) n nm lk (upd jv k x) ls := by
  have hl := h.len
  refine ⟨by simp [h.len], fun j hj => ?_, fun j hj => ?_, fun j hj => ?_, fun j hj => ?_⟩ <;> rw [set_at _ _ _ _ (by omega)]
  · rw [if_neg (by omega)]; exact h.nm j hj
  · rw [if_neg (by omega)]; exact h.lk j hj
  · unfold upd
    by_cases e : j = k
    · subst e; simp
    · rw [if_neg (by omega), if_neg e]; exact h.jv j hj
  · rw [if_neg (by omega)]; exact h.ls j hj
theorem NAt.set3 (h : NAt cs n nm lk jv ls) (hk : k < n) (x : Nat) : NAt (cs.set (k * 4 + 3) (.int .i64 (x : Int))) n nm lk jv (upd ls k x) := by
  have hl := h.len
  refine ⟨by simp [h.len], fun j hj => ?_, fun j hj => ?_, fun j hj => ?_, fun j hj => ?_⟩ <;> rw [set_at _ _ _ _ (by omega)]
  · rw [if_neg (by omega)]; exact h.nm j hj
  · rw [if_neg (by omega)]; exact h.lk j hj
  · rw [if_neg (by omega)]; exact h.jv j hj
  · unfold upd
    by_cases e : j = k
    · subst e; simp
    · rw [if_neg (by omega), if_neg e]; exact h.ls j hj
theorem nat_made (n : Nat) : NAt (madeCells #[.string ⟨#[]⟩, .map none, .slice none 0 0, .int .i64 0] (n * 4)).toList n (fun _ => ⟨#[]⟩) (fun _ => .map none) (fun _ => .slice none 0 0) (fun _ => 0) :=
  ⟨by simp [size_madeCells], fun k hk => made_at [.string ⟨#[]⟩, .map none, .slice none 0 0, .int .i64 0] n k 0 _ hk rfl,
    fun k hk => made_at [.string ⟨#[]⟩, .map none, .slice none 0 0, .int .i64 0] n k 1 _ hk rfl,
    fun k hk => made_at [.string ⟨#[]⟩, .map none, .slice none 0 0, .int .i64 0] n k 2 _ hk rfl,
    fun k hk => made_at [.string ⟨#[]⟩, .map none, .slice none 0 0, .int .i64 0] n k 3 _ hk rfl⟩
end

/-! ### The row of paths: three cells a path -/
structure PT where
  via : Nat
  prev : Nat
  hops : Nat
def pt0 : PT := ⟨0, 0, 0⟩
structure PAt (cs : List Value) (n : Nat) (P : Nat → PT) : Prop where
  len : n * 3 ≤ cs.length
  via : ∀ k, k < n → cs[k * 3]? = some (.int .i64 ((P k).via : Int))
  prev : ∀ k, k < n → cs[k * 3 + 1]? = some (.int .i64 ((P k).prev : Int))
  hops : ∀ k, k < n → cs[k * 3 + 2]? = some (.int .i64 ((P k).hops : Int))
theorem PAt.set {cs : List Value} {n k : Nat} {P : Nat → PT} (h : PAt cs n P) (hk : k < n) (p : PT) :
    PAt (((cs.set (k * 3) (.int .i64 (p.via : Int))).set (k * 3 + 1) (.int .i64 (p.prev : Int))).set (k * 3 + 2) (.int .i64 (p.hops : Int))) n (upd P k p) := by
  have hl := h.len
  refine ⟨by simpa using h.len, fun j hj => ?_, fun j hj => ?_, fun j hj => ?_⟩ <;> rw [set_at _ _ _ _ (by simp; omega), set_at _ _ _ _ (by simp; omega), set_at _ _ _ _ (by omega)]
  · unfold upd
    by_cases e : j = k
    · subst e; rw [if_neg (by omega), if_neg (by omega), if_pos rfl, if_pos rfl]
    · rw [if_neg (by omega), if_neg (by omega), if_neg (by omega), if_neg e]; exact h.via j hj
  · unfold upd
    by_cases e : j = k
    · subst e; rw [if_neg (by omega), if_pos rfl, if_pos rfl]
    · rw [if_neg (by omega), if_neg (by omega), if_neg (by omega), if_neg e]; exact h.prev j hj
  · unfold upd
    by_cases e : j = k
    · subst e; rw [if_pos rfl, if_pos rfl]
    · rw [if_neg (by omega), if_neg (by omega), if_neg (by omega), if_neg e]; exact h.hops j hj
theorem PAt.congr {cs : List Value} {n : Nat} {P P' : Nat → PT} (h : PAt cs n P) (he : ∀ k, k < n → P k = P' k) : PAt cs n P' :=
  ⟨h.len, fun k hk => by rw [← he k hk]; exact h.via k hk, fun k hk => by rw [← he k hk]; exact h.prev k hk, fun k hk => by rw [← he k hk]; exact h.hops k hk⟩
theorem pat_made (n : Nat) : PAt (madeCells #[.int .i64 0, .int .i64 0, .int .i64 0] (n * 3)).toList n (fun _ => pt0) :=
  ⟨by simp [size_madeCells], fun k hk => made_at [.int .i64 0, .int .i64 0, .int .i64 0] n k 0 _ hk rfl,
    fun k hk => made_at [.int .i64 0, .int .i64 0, .int .i64 0] n k 1 _ hk rfl,
    fun k hk => made_at [.int .i64 0, .int .i64 0, .int .i64 0] n k 2 _ hk rfl⟩

/-! ### The whole -/
/-- What a Paths of n nodes holds. -/
structure PD where
  nm : Nat → ByteArray
  L : Nat → Nat → Nat
  lc : Nat → Nat
  J : Nat → List Nat
  ls : Nat → Nat
  P : Nat → PT
  num : ByteArray → Option Int
  nc : Nat
  rel : Nat
/-- Where it lies. -/
structure PB where
  nb : Nat
  mb : Nat
  pb : Nat
  pc : Nat
  lk : Nat → Option Nat
  jb : Nat → Option Nat
  nx : Value
  qu : Value
/-- The value of a joined list. -/
def jval (b : Option Nat) (l : Nat) : Value := match b with
  | none => .slice none 0 0
  | some g => slc g l
structure PsAt (w : World) (p n : Nat) (d : PD) (b : PB) : Prop where
  st : Row w p 75 [slc b.nb n, .map (some b.mb), .int .i64 (d.rel : Int), .slice (some ⟨b.pb, 0, none⟩) n b.pc, b.nx, b.qu]
  nodes : ∃ cs, Row w b.nb 79 cs ∧ NAt cs n d.nm (fun k => .map (b.lk k)) (fun k => jval (b.jb k) (d.J k).length) d.ls
  paths : ∃ cs, Row w b.pb 70 cs ∧ PAt cs n d.P ∧ cs.length = b.pc * 3 ∧ n ≤ b.pc ∧ b.pc ≤ maxLen
  num : MapAt kS w 9 b.mb d.nc d.num
  lk0 : ∀ k, k < n → b.lk k = none → d.lc k = 0 ∧ ∀ t, d.L k t = 0
  lk1 : ∀ k g, k < n → b.lk k = some g → MapAt kN w 3 g (d.lc k) (fun t => if d.L k t = 0 then none else some (d.L k t : Int))
  jn0 : ∀ k, k < n → b.jb k = none → d.J k = []
  jn1 : ∀ k g, k < n → b.jb k = some g → Row w g 3 (nats (d.J k))

theorem PsAt.kp {w w' : World} {p n : Nat} {d : PD} {b : PB} (h : PsAt w p n d b) (hk : Kp w.heap.size [] w w') : PsAt w' p n d b := by
  obtain ⟨cs, h1, h2⟩ := h.nodes
  obtain ⟨cp, h3, h4⟩ := h.paths
  exact ⟨h.st.kp hk h.st.lt (by simp), ⟨cs, h1.kp hk h1.lt (by simp), h2⟩, ⟨cp, h3.kp hk h3.lt (by simp), h4⟩, h.num.kp hk h.num.lt (by simp), h.lk0,
    fun k g h5 h6 => (h.lk1 k g h5 h6).kp hk (h.lk1 k g h5 h6).lt (by simp), h.jn0, fun k g h5 h6 => (h.jn1 k g h5 h6).kp hk (h.jn1 k g h5 h6).lt (by simp)⟩

end Go.Proofs.Qxb6600010a
