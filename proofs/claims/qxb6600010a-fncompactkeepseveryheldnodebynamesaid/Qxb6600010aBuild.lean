/-
  THE WALK of zzBuild.
-/
import Derived.Test.Qxb6600010aBuildP
import Derived.Test.Qxb6600010aBuild5
namespace Go.Proofs.Qxb6600010a
open Go.RowKit
set_option linter.unusedVariables false
set_option linter.unusedSimpArgs false
attribute [local go_sem ↓] Go.wp_at_zero Go.wp_at_succ

/-- What zzBuild leaves, written out. -/
def BuildOut (w : World) (names : List ByteArray) (n : Nat) (e : Ending) (w' : World) : Prop :=
  (e = .returned (.tuple #[.agg #[.int .i64 (n : Int), .slice none 0 0, .slice none 0 0, .map none, .slice none 0 0, .slice none 0 0, .slice none 0 0, .int .i64 0], .bool false]) ∧ Kp w.heap.size [] w w') ∨
  (∃ (b : MB) (m : PL.PM), e = .returned (.tuple #[meshV n b (PL.hc m.S.T m.ls n), .bool true]) ∧ PL.PMesh names n m ∧ MeshAt w' n b m ∧ Kp w.heap.size [] w w')
theorem BuildOut.no {w : World} {names : List ByteArray} {n B0 : Nat} {w' : World} (hB : w.heap.size = B0) (h : Kp B0 [] w w') : BuildOut w names n (.returned (.tuple #[.agg #[.int .i64 (n : Int), .slice none 0 0, .slice none 0 0, .map none, .slice none 0 0, .slice none 0 0, .slice none 0 0, .int .i64 0], .bool false])) w' := .inl ⟨rfl, hB ▸ h⟩

set_option maxHeartbeats 20000000 in
set_option maxRecDepth 100000 in
theorem build_any (w : World) (nb : Nat) (names : List ByteArray) (fv tv : Value) (fr tl : List Int) (n : Nat) (hn0 : 0 < n) (hn : n ≤ 65536) (hnl : names.length = n)
    (hnm : Row w nb 9 (strs names)) (hf : IntsIn w fv fr) (ht : IntsIn w tv tl) (hfl : fr.length ≤ 65536) (htl : tl.length ≤ 65536) :
    Calls Try.prog 15 #[.slice (some ⟨nb, 0, none⟩) n n, fv, tv] w fun e w' => BuildOut w names n e w' := by
  have hmk23 := run_make_row' (P := Try.prog) 23 3 (.int .i64 0) 8 Try.underlying23 info3 rfl .i64 .i64 n (by omega) (by omega)
  have hmk28 := run_make_row' (P := Try.prog) 28 23 (.slice none 0 0) 24 Try.underlying28 info23 rfl .i64 .i64 n (by omega) (by omega)
  have hmk30 := run_make_row' (P := Try.prog) 30 4 (.bool false) 1 Try.underlying30 info4 rfl .i64 .i64 n (by omega) (by omega)
  have hmm := @run_makeMap Try.prog
  obtain ⟨i3, hi3, hz30, hz31, hz32⟩ := info_parts info3
  have HNL : Hid (names.length = n) := hnl
  have HNM : Hid (Row w nb 9 (strs names)) := hnm
  have hnb := hnm.lt
  have HF : Hid (IntsIn w fv fr) := hf
  have HT : Hid (IntsIn w tv tl) := ht
  clear hnl hnm hf ht
  go_enter Try.func15, Try.ntmps15
  go_wp2
  obtain ⟨B0, hB0⟩ : ∃ B0, w.heap.size = B0 := ⟨_, rfl⟩
  have HB0 : Hid (w.heap.size = B0) := hB0
  obtain ⟨w1, hw1⟩ : ∃ w1, w1 = (((w.alloc (Obj.cells #[Value.int IntKind.i64 0, Value.slice none 0 0, Value.slice none 0 0, Value.map none, Value.slice none 0 0, Value.slice none 0 0, Value.slice none 0 0, Value.int IntKind.i64 0] 32)).alloc (Obj.cells #[Value.int IntKind.i64 n, Value.slice none 0 0, Value.slice none 0 0, Value.map none, Value.slice none 0 0, Value.slice none 0 0, Value.slice none 0 0, Value.int IntKind.i64 0] 32)).alloc (Obj.cells (madeCells #[Value.int IntKind.i64 0] n) 3)) := ⟨_, rfl⟩
  have hK1 : Kp B0 [] w w1 := by rw [hw1, ← hB0]; exact (((Kp.refl _ _ _).alloc (Nat.le_refl _) _).alloc (by simp) _).alloc (by simp; omega) _
  have hres1 : Row w1 B0 32 (mcells 0 (.slice none 0 0) (.slice none 0 0) (.map none) (.slice none 0 0) (.slice none 0 0) (.slice none 0 0) 0) := by
    rw [hw1, ← hB0]; exact (Row.alloc (Row.alloc (row_new w _ 32) _) _)
  have hm1 : Row w1 (B0 + 1) 32 (mcells n (.slice none 0 0) (.slice none 0 0) (.map none) (.slice none 0 0) (.slice none 0 0) (.slice none 0 0) 0) := by
    rw [hw1]
    have h := row_new (w.alloc (Obj.cells #[Value.int IntKind.i64 0, Value.slice none 0 0, Value.slice none 0 0, Value.map none, Value.slice none 0 0, Value.slice none 0 0, Value.slice none 0 0, Value.int IntKind.i64 0] 32)) (mcells n (.slice none 0 0) (.slice none 0 0) (.map none) (.slice none 0 0) (.slice none 0 0) (.slice none 0 0) 0) 32
    rw [World.size_alloc, hB0] at h
    exact Row.alloc h _
  have ho1 : Row w1 (B0 + 2) 3 (nats (List.range 0) ++ List.replicate (n - 0) (Value.int .i64 0)) := by
    rw [hw1]
    have h := row_made ((w.alloc (Obj.cells #[Value.int IntKind.i64 0, Value.slice none 0 0, Value.slice none 0 0, Value.map none, Value.slice none 0 0, Value.slice none 0 0, Value.slice none 0 0, Value.int IntKind.i64 0] 32)).alloc (Obj.cells #[Value.int IntKind.i64 n, Value.slice none 0 0, Value.slice none 0 0, Value.map none, Value.slice none 0 0, Value.slice none 0 0, Value.slice none 0 0, Value.int IntKind.i64 0] 32)) (.int .i64 0) n 3
    rw [World.size_alloc, World.size_alloc, hB0] at h
    simpa [nats] using h
  rw [← hw1, hB0]
  rw [hB0] at hnb
  clear hw1 hB0
  go_loopg [11] n (fun g s wr => ∃ j : Nat, g = n - j ∧ j ≤ n ∧ s = .int .i64 j ∧ Row wr (B0 + 2) 3 (nats (List.range j) ++ List.replicate (n - j) (Value.int .i64 0)) ∧ Kp (B0 + 2) [] w1 wr)
  case atStart => exact ⟨0, rfl, by omega, rfl, ho1, Kp.refl _ _ _⟩
  case round =>
    clear ho1
    obtain ⟨j, rfl, hj, rfl, hO, hK⟩ := hrel
    by_cases hlt : j < n
    · have hl1 : (nats (List.range j)).length = j := by rw [nats_len]; simp
      have hc := hO.cell (i := j) (v := .int .i64 0) (by rw [List.getElem?_append_right (by omega), hl1, List.getElem?_replicate, if_pos (by omega)])
      have hfz := hO.frozen j
      have HO' : Hid (Row (wr.setCell ⟨B0 + 2, j, none⟩ (.int .i64 (j : Int))) (B0 + 2) 3 (nats (List.range (j + 1)) ++ List.replicate (n - (j + 1)) (Value.int .i64 0))) := by
        have := hO.set j (.int .i64 (j : Int))
        rw [range_part n j hlt] at this; exact this
      have hK' := hK.setCell (b := B0 + 2) (o := j) (.inl (Nat.le_refl _)) (.int .i64 (j : Int))
      clear hO hK hl1
      go_wp2
      go_roundg (n - (j + 1))
      case measure => omega
      case rel => exact ⟨j + 1, rfl, by omega, by go_num, HO'.out, hK'⟩
    · have e : n = j := by omega
      subst e
      have hO2 : Row wr (B0 + 2) 3 (nats (List.range n) ++ []) := by
        have := hO; rw [Nat.sub_self] at this; exact this
      have hsz := hK.size
      have hm2 := hm1.kp hK (by omega) (by simp)
      have hres2 := hres1.kp hK (by omega) (by simp)
      have hlt1 := hm1.lt
      have hK2 : Kp B0 [] w wr := hK1.trans (hK.mono (by omega) (by simp))
      have hnm2 := HNM.out.kp hK2 (by omega) (by simp)
      have hsort := sortName_any wr (B0 + 2) n nb (List.range n) [] names (by simp; omega) (by rw [HNL.out]; omega) (by omega) (fun x hx => by rw [HNL.out]; simpa using hx) hO2 hnm2
      rw [List.length_range, HNL.out] at hsort
      clear hO hO2 hK hm1 hres1 hK1 hlt1
      go_wp2_with fail
      refine hsort.mono ?_
      rintro e w2 ⟨rfl, ord, hperm, hsrt, hO2, hgr⟩
      clear hsort
      rw [List.append_nil] at hO2
      have hK3 : Kp B0 [] w w2 := hK2.grown hgr (by have := hres2.lt; omega) (fun k hk => .inl (by cases hk; omega))
      have hm3 := hm2.kept hgr (by simp)
      have hres3 := hres2.kept hgr (by simp)
      have hnm3 := hnm2.kept hgr (by simp; omega)
      clear hm2 hres2 hnm2 hgr hK2 hsz
      have HPERM : Hid (ord.Perm (List.range n)) := hperm
      have HSRT : Hid (ord.Pairwise (fun a b => PL.nameLe names a b = true)) := hsrt
      have hol : ord.length = n := by rw [hperm.length_eq]; simp
      have HOL : Hid (ord.length = n) := hol
      have HOLT : Hid (∀ (i : Nat) (h : i < ord.length), ord[i] < n) := fun i h => by have := hperm.mem_iff.1 (List.getElem_mem h); simpa using this
      clear hperm hsrt hol
      go_wp2_with fail
      go_loopg [12] (n - 1) (fun g s wr => ∃ i q0 : Nat, g = n - i ∧ 1 ≤ i ∧ i ≤ n ∧ s = .int .i64 i ∧ wr = w2.drewN q0 ∧ (∀ k, 1 ≤ k → k < i → ∀ x y, ord[k - 1]? = some x → ord[k]? = some y → names[x]? ≠ names[y]?))
      case atStart => exact ⟨1, 0, rfl, by omega, by omega, rfl, rfl, fun k h1 h2 => by omega⟩
      case round =>
        obtain ⟨i, q0, rfl, hi1, hi2, rfl, rfl, hd⟩ := hrel
        have HD : Hid (∀ k, 1 ≤ k → k < i → ∀ x y, ord[k - 1]? = some x → ord[k]? = some y → names[x]? ≠ names[y]?) := hd
        clear hd
        by_cases hij : i < n
        · have h1 : i - 1 < ord.length := by rw [HOL.out]; omega
          have h2 : i < ord.length := by rw [HOL.out]; omega
          have ca := hO2.cell (nats_at (List.getElem?_eq_getElem h1))
          have cb := hO2.cell (nats_at (List.getElem?_eq_getElem h2))
          have la := HOLT.out _ h1
          have lb := HOLT.out _ h2
          have na := hnm3.cell (strs_at (List.getElem?_eq_getElem (show ord[i - 1] < names.length by rw [HNL.out]; exact la)))
          have nb' := hnm3.cell (strs_at (List.getElem?_eq_getElem (show ord[i] < names.length by rw [HNL.out]; exact lb)))
          generalize hxa : names[ord[i - 1]]'(by rw [HNL.out]; exact la) = xa at *
          generalize hxb : names[ord[i]]'(by rw [HNL.out]; exact lb) = xb at *
          generalize hpa : ord[i - 1] = pa at *
          generalize hpb : ord[i] = pb at *
          have HA : Hid (ord[i - 1]? = some pa ∧ ord[i]? = some pb) := ⟨by rw [← hpa]; simp, by rw [← hpb]; simp⟩
          have HX : Hid (names[pa]? = some xa ∧ names[pb]? = some xb) := ⟨by rw [← hxa]; simp, by rw [← hxb]; simp⟩
          clear hxa hxb hpa hpb
          by_cases hxe : xa = xb
          · have hbe : (xa.toList == xb.toList) = true := by rw [hxe]; simp
            have m0 := hm3.cell (i := 0) rfl
            have m1 := hm3.cell (i := 1) rfl
            have m2 := hm3.cell (i := 2) rfl
            have m3 := hm3.cell (i := 3) rfl
            have m4 := hm3.cell (i := 4) rfl
            have m5 := hm3.cell (i := 5) rfl
            have m6 := hm3.cell (i := 6) rfl
            have m7 := hm3.cell (i := 7) rfl
            have r0 := hres3.cell (i := 0) rfl
            have r1 := hres3.cell (i := 1) rfl
            have r2 := hres3.cell (i := 2) rfl
            have r3 := hres3.cell (i := 3) rfl
            have r4 := hres3.cell (i := 4) rfl
            have r5 := hres3.cell (i := 5) rfl
            have r6 := hres3.cell (i := 6) rfl
            have r7 := hres3.cell (i := 7) rfl
            have f0 := hres3.frozen 0
            have f1 := hres3.frozen 1
            have f2 := hres3.frozen 2
            have f3 := hres3.frozen 3
            have f4 := hres3.frozen 4
            have f5 := hres3.frozen 5
            have f6 := hres3.frozen 6
            have f7 := hres3.frozen 7
            clear hxe hmm hmk23 hmk28 hmk30
            go_upto_region 13 with fail
            go_quiet (fail)
            go_wp2
            have R2 := row_set8 (hres3.drewN (q0 + nq)) (.int .i64 (n : Int)) (.slice none 0 0) (.slice none 0 0) (.map none) (.slice none 0 0) (.slice none 0 0) (.slice none 0 0) (.int .i64 0)
            have hKf2 := kp_set8 (hK3.drewN (q0 + nq)) (.inl (Nat.le_refl B0)) (.int .i64 (n : Int)) (.slice none 0 0) (.slice none 0 0) (.map none) (.slice none 0 0) (.slice none 0 0) (.slice none 0 0) (.int .i64 0)
            generalize (((((((((w2.drewN (q0 + nq)).setCell ⟨B0, 0, none⟩ (Value.int IntKind.i64 n)).setCell ⟨B0, 1, none⟩ (Value.slice none 0 0)).setCell ⟨B0, 2, none⟩ (Value.slice none 0 0)).setCell ⟨B0, 3, none⟩ (Value.map none)).setCell ⟨B0, 4, none⟩ (Value.slice none 0 0)).setCell ⟨B0, 5, none⟩ (Value.slice none 0 0)).setCell ⟨B0, 6, none⟩ (Value.slice none 0 0)).setCell ⟨B0, 7, none⟩ (Value.int IntKind.i64 0)) = W9 at *
            have s0 := R2.cell (i := 0) rfl
            have s1 := R2.cell (i := 1) rfl
            have s2 := R2.cell (i := 2) rfl
            have s3 := R2.cell (i := 3) rfl
            have s4 := R2.cell (i := 4) rfl
            have s5 := R2.cell (i := 5) rfl
            have s6 := R2.cell (i := 6) rfl
            have s7 := R2.cell (i := 7) rfl
            exact bodyPost_ret (v := .tuple #[.agg #[.int .i64 (n : Int), .slice none 0 0, .slice none 0 0, .map none, .slice none 0 0, .slice none 0 0, .slice none 0 0, .int .i64 0], .bool false]) (by simp [results, Try.results15, go_sem, s0, s1, s2, s3, s4, s5, s6, s7]) rfl (BuildOut.no HB0.out hKf2)
          · have hbe : (xa.toList == xb.toList) = false := by rw [beq_eq_false_iff_ne]; exact fun e => hxe (PL.toList_inj e)
            have HN : Hid (∀ k, 1 ≤ k → k < i + 1 → ∀ x y, ord[k - 1]? = some x → ord[k]? = some y → names[x]? ≠ names[y]?) := by
              intro k k1 k2 x y hx hy
              by_cases hk : k = i
              · subst hk
                rw [HA.out.1] at hx; rw [HA.out.2] at hy
                cases hx; cases hy
                rw [HX.out.1, HX.out.2]
                exact fun e => hxe (Option.some.inj e)
              · exact HD.out k k1 (by omega) x y hx hy
            clear hxe hmm hmk23 hmk28 hmk30
            go_upto_region 13 with fail
            go_quiet (fail)
            go_wp2
            go_roundg (n - (i + 1))
            case measure => omega
            case rel => exact ⟨i + 1, q0 + nq, rfl, by omega, by omega, by go_num, by simp [World.drewN, Nat.add_assoc], HN.out⟩
        · have e : n = i := by omega
          subst e
          have hO4 := hO2.drewN q0
          have hm4 := hm3.drewN q0
          have hres4 := hres3.drewN q0
          have hnm4 := hnm3.drewN q0
          have hK4 := hK3.drewN q0
          clear hO2 hm3 hres3 hnm3 hK3
          generalize w2.drewN q0 = W2 at *
          have mf1 := hm4.frozen 1
          have mc1 := hm4.cell (i := 1) rfl
          have hmlt := hm4.lt
          have HDIST := HD
          clear HD
          go_wp2
          obtain ⟨rb, hrb⟩ : ∃ rb, W2.heap.size = rb := ⟨_, rfl⟩
          obtain ⟨w3, hw3⟩ : ∃ w3, w3 = ((W2.setCell ⟨B0 + 1, 1, none⟩ (Value.slice (some ⟨W2.heap.size, 0, none⟩) n n)).alloc (Obj.cells (madeCells #[Value.int IntKind.i64 0] n) 3)) := ⟨_, rfl⟩
          have hrblt : B0 + 2 < rb := by rw [← hrb]; exact hO4.lt
          have hR3 : Row w3 rb 3 (nats (List.replicate n 0)) := by
            have h := row_made (W2.setCell ⟨B0 + 1, 1, none⟩ (Value.slice (some ⟨W2.heap.size, 0, none⟩) n n)) (.int .i64 0) n 3
            rw [size_setCell, hrb] at h
            rw [hw3, hrb, ← nats_replicate]; exact h
          have hm5 : Row w3 (B0 + 1) 32 (mcells n (.slice (some ⟨rb, 0, none⟩) n n) (.slice none 0 0) (.map none) (.slice none 0 0) (.slice none 0 0) (.slice none 0 0) 0) := by
            rw [hw3, hrb]; exact (hm4.set 1 _).alloc _
          have hres5 : Row w3 B0 32 (mcells 0 (.slice none 0 0) (.slice none 0 0) (.map none) (.slice none 0 0) (.slice none 0 0) (.slice none 0 0) 0) := by
            rw [hw3]; exact (hres4.setOther (by omega) _).alloc _
          have hO5 : Row w3 (B0 + 2) 3 (nats ord) := by rw [hw3]; exact (hO4.setOther (by omega) _).alloc _
          have hnm5 : Row w3 nb 9 (strs names) := by rw [hw3]; exact (hnm4.setOther (by omega) _).alloc _
          have hK5 : Kp B0 [] w w3 := by rw [hw3]; exact (hK4.setCell (.inl (by omega)) _).alloc (by rw [size_setCell, hrb]; omega) _
          have hsz5 : w3.heap.size = rb + 1 := by rw [hw3, World.size_alloc, size_setCell, hrb]
          rw [← hw3, hrb]
          clear hw3 hrb hO4 hm4 hres4 hnm4 hK4 mf1 mc1 hmlt hsz5
          have HND : Hid (ord.Nodup) := (HPERM.out.nodup_iff).2 List.nodup_range
          go_loopg [13] n (fun g s wr => ∃ (i : Nat) (rk : List Nat), g = n - i ∧ i ≤ n ∧ s = .int .i64 i ∧ rk.length = n ∧ (∀ k, k < i → ∀ x, ord[k]? = some x → rk[x]? = some k) ∧ Row wr rb 3 (nats rk) ∧ Kp rb [] w3 wr)
          case atStart => exact ⟨0, List.replicate n 0, rfl, by omega, rfl, by simp, fun k hk => by omega, hR3, Kp.refl _ _ _⟩
          case round =>
            clear hR3
            obtain ⟨i, rk, rfl, hi, rfl, hrl, hrk, hR, hKr⟩ := hrel
            have HRK : Hid (∀ k, k < i → ∀ x, ord[k]? = some x → rk[x]? = some k) := hrk
            have HRL : Hid (rk.length = n) := hrl
            clear hrk hrl
            by_cases hin : i < n
            · have h2 : i < ord.length := by rw [HOL.out]; omega
              have cb := (hO5.kp hKr (by omega) (by simp)).cell (nats_at (List.getElem?_eq_getElem h2))
              have lb := HOLT.out _ h2
              have cm := (hm5.kp hKr (by omega) (by simp)).cell (i := 1) rfl
              have hox : ord[i]? = some ord[i] := List.getElem?_eq_getElem h2
              generalize ord[i] = x at *
              have hxl : x < rk.length := by rw [HRL.out]; exact lb
              have cr := hR.cell (nats_at (List.getElem?_eq_getElem hxl))
              have fr' := hR.frozen x
              have HR' : Hid (Row (wr.setCell ⟨rb, x, none⟩ (.int .i64 (i : Int))) rb 3 (nats (rk.set x i))) := by
                have := hR.set x (.int .i64 (i : Int)); rw [nats_set] at this; exact this
              have hK' := hKr.setCell (b := rb) (o := x) (.inl (Nat.le_refl _)) (.int .i64 (i : Int))
              have HN : Hid (∀ k, k < i + 1 → ∀ y, ord[k]? = some y → (rk.set x i)[y]? = some k) := by
                intro k hk y hy
                by_cases e : k = i
                · subst e
                  rw [hox] at hy; cases hy
                  simp [hxl]
                · have hne : x ≠ y := by
                    intro e'
                    subst e'
                    obtain ⟨hk1, hk2⟩ := List.getElem?_eq_some_iff.1 hy
                    obtain ⟨_, hi2⟩ := List.getElem?_eq_some_iff.1 hox
                    exact e (nodup_inj HND.out _ _ _ _ (hk2.trans hi2.symm))
                  rw [List.getElem?_set_ne hne]
                  exact HRK.out k (by omega) y hy
              have HRL2 : Hid ((rk.set x i).length = n) := by show (rk.set x i).length = n; rw [List.length_set]; exact HRL.out
              clear hox hR hKr h2 hmm hmk23 hmk28 hmk30
              go_wp2_with fail
              go_region
              all_goals
                go_wp2
                go_roundg (n - (i + 1))
                case measure => omega
                case rel => exact ⟨i + 1, rk.set x i, rfl, by omega, by go_num, HRL2.out, HN.out, HR'.out.drew, hK'.drew⟩
            · have e : n = i := by omega
              subst e
              have HRANK : Hid (PL.Ranked names rk) := PL.ranked_of names ord rk (by rw [HNL.out]; exact HPERM.out) HSRT.out (by rw [HNL.out]; exact HDIST.out) ⟨by rw [HNL.out]; exact HRL.out, fun k hk => HRK.out k (by rw [← HOL.out]; exact hk) _ (List.getElem?_eq_getElem hk)⟩
              have hm6 := hm5.kp hKr (by omega) (by simp)
              have hres6 := hres5.kp hKr (by omega) (by simp)
              have hK6 : Kp B0 [] w wr := hK5.trans (hKr.mono (by omega) (by simp))
              clear hm5 hres5 hO5 hnm5 hK5 hKr HRK HOL HOLT HND HPERM HSRT HDIST
              obtain ⟨fa, hfa, hfr⟩ := HF.out.form
              obtain ⟨ta, hta, htr⟩ := HT.out.form
              subst hfa hta
              have HFR : Hid (0 < fr.length → ∃ b, fa = some ⟨b, 0, none⟩ ∧ b < B0 ∧ Row w b 3 (ints fr)) := fun h0 => by
                obtain ⟨b, e1, h1⟩ := hfr h0; exact ⟨b, e1, by have := h1.lt; rw [HB0.out] at this; exact this, h1⟩
              have HTR : Hid (0 < tl.length → ∃ b, ta = some ⟨b, 0, none⟩ ∧ b < B0 ∧ Row w b 3 (ints tl)) := fun h0 => by
                obtain ⟨b, e1, h1⟩ := htr h0; exact ⟨b, e1, by have := h1.lt; rw [HB0.out] at this; exact this, h1⟩
              clear HF HT hfr htr
              have mf2 := hm6.frozen 2
              have mf3 := hm6.frozen 3
              have mc2 := hm6.cell (i := 2) rfl
              have mc3 := hm6.cell (i := 3) rfl
              have hmlt := hm6.lt
              have hmlt2 : B0 + 1 < wr.heap.size + 1 := by omega
              go_upto_if 89 with fail
              obtain ⟨cb, hcb⟩ : ∃ cb, wr.heap.size = cb := ⟨_, rfl⟩
              obtain ⟨w4, hw4⟩ : ∃ w4, w4 = ((((wr.setCell ⟨B0 + 1, 3, none⟩ (Value.map (some wr.heap.size))).setCell ⟨B0 + 1, 2, none⟩ (Value.slice (some ⟨wr.heap.size + 1, 0, none⟩) n n)).alloc (Obj.map #[] 0)).alloc (Obj.cells (madeCells #[Value.slice none 0 0] n) 23)) := ⟨_, rfl⟩
              have hrblt2 : rb < cb := by rw [← hcb]; exact hR.lt
              have hm7 : Row w4 (B0 + 1) 32 (mcells n (.slice (some ⟨rb, 0, none⟩) n n) (.slice (some ⟨cb + 1, 0, none⟩) n n) (.map (some cb)) (.slice none 0 0) (.slice none 0 0) (.slice none 0 0) 0) := by
                rw [hw4, hcb]; exact (((hm6.set 3 _).set 2 _).alloc _).alloc _
              have hres7 : Row w4 B0 32 (mcells 0 (.slice none 0 0) (.slice none 0 0) (.map none) (.slice none 0 0) (.slice none 0 0) (.slice none 0 0) 0) := by
                rw [hw4]; exact (((hres6.setOther (by omega) _).setOther (by omega) _).alloc _).alloc _
              have hR7 : Row w4 rb 3 (nats rk) := by rw [hw4]; exact (((hR.setOther (by omega) _).setOther (by omega) _).alloc _).alloc _
              have hK7 : Kp B0 [] w w4 := by rw [hw4]; exact (((hK6.setCell (.inl (by omega)) _).setCell (.inl (by omega)) _).alloc (by rw [size_setCell, size_setCell, hcb]; omega) _).alloc (by rw [World.size_alloc, size_setCell, size_setCell, hcb]; omega) _
              have hsz7 : w4.heap.size = cb + 2 := by rw [hw4, World.size_alloc, World.size_alloc, size_setCell, size_setCell, hcb]
              have hC7 : MapAt kP w4 41 cb 0 (fun _ => none) := by
                have h := map_made kP ((wr.setCell ⟨B0 + 1, 3, none⟩ (Value.map (some wr.heap.size))).setCell ⟨B0 + 1, 2, none⟩ (Value.slice (some ⟨wr.heap.size + 1, 0, none⟩) n n)) 41
                rw [size_setCell, size_setCell, hcb] at h
                rw [hw4, hcb]; exact h.kept (World.grownBy_alloc _ _ none) (by simp)
              have hT7 : Row w4 (cb + 1) 23 (List.replicate n (.slice none 0 0)) := by
                have h := row_made (((wr.setCell ⟨B0 + 1, 3, none⟩ (Value.map (some wr.heap.size))).setCell ⟨B0 + 1, 2, none⟩ (Value.slice (some ⟨wr.heap.size + 1, 0, none⟩) n n)).alloc (Obj.map #[] 0)) (.slice none 0 0) n 23
                rw [World.size_alloc, size_setCell, size_setCell, hcb] at h
                rw [hw4, hcb]; exact h
              have hTG := tg0 (base := cb + 2) hT7 hC7
              rw [← hw4, hcb]
              clear hw4 hcb hm6 hres6 hK6 hR mf2 mf3 mc2 mc3 hmlt hmlt2 hC7 hT7
              obtain ⟨np, hnp⟩ : ∃ np, np = min fr.length tl.length := ⟨_, rfl⟩
              have hnp1 : np ≤ fr.length := by omega
              have hnp2 : np ≤ tl.length := by omega
              have HNP : Hid (np = min fr.length tl.length) := hnp
              clear hnp
              go_cut [14] (fun m wx => m = .int .i64 np ∧ w4 = wx)
              case first =>
                by_cases hc : tl.length < fr.length
                · have e : np = tl.length := by have := HNP.out; omega
                  subst e
                  go_wp2
                  go_meet
                  case rel => exact ⟨rfl, rfl⟩
                · have e : np = fr.length := by have := HNP.out; omega
                  subst e
                  have hc2 : decide ((tl.length : Int) < (fr.length : Int)) = false := by simp; omega
                  go_wp2
                  go_meet
                  case rel => exact ⟨rfl, rfl⟩
              case rest =>
                obtain ⟨rfl, rfl⟩ := hcut
                obtain ⟨ps, hps⟩ : ∃ ps : List (Nat × Nat), ps = (List.range np).map fun i => (PL.md (fr[i]?.getD 0) n, PL.md (tl[i]?.getD 0) n) := ⟨_, rfl⟩
                have hpl : ps.length = np := by rw [hps]; simp
                have HPL : Hid (ps.length = np) := hpl
                have HPS : Hid (∀ (i : Nat) (x y : Int), i < np → fr[i]? = some x → tl[i]? = some y → ps[i]? = some (PL.md x n, PL.md y n)) := by
                  intro i x y h hx hy
                  rw [hps]
                  simp [h, hx, hy]
                have HPR : Hid (∀ p ∈ ps, p.1 < n ∧ p.2 < n) := by
                  intro p hp
                  rw [hps] at hp
                  obtain ⟨i, _, rfl⟩ := List.mem_map.1 hp
                  exact ⟨PL.md_lt _ _ hn0, PL.md_lt _ _ hn0⟩
                clear hps hpl HNP
                go_wp2_with fail
                go_loopg [15] np (fun g s wr => ∃ (i c : Nat) (TV : List Value), g = np - i ∧ i ≤ np ∧ s = .int .i64 i ∧ c ≤ i ∧ TgAt wr (cb + 2) (cb + 1) cb n c (PL.msOf n (ps.take i)).T (PL.msOf n (ps.take i)).ct TV ∧ Kp (cb + 2) [cb, cb + 1] w4 wr)
                case atStart => exact ⟨0, 0, _, rfl, by omega, rfl, by omega, by simpa [PL.msOf] using hTG, Kp.refl _ _ _⟩
                case round =>
                  clear hTG
                  obtain ⟨i, c, TV, rfl, hi, rfl, hc, hTG, hKr⟩ := hrel
                  by_cases hin : i < np
                  · obtain ⟨fb, rfl, hfb, hfrow⟩ := HFR.out (by omega)
                    obtain ⟨tb', rfl, htb', htrow⟩ := HTR.out (by omega)
                    have hfi : fr[i]? = some (fr[i]'(by omega)) := List.getElem?_eq_getElem _
                    have hti : tl[i]? = some (tl[i]'(by omega)) := List.getElem?_eq_getElem _
                    have hfc := ((hfrow.kp hK7 hfb (by simp)).kp hKr (by omega) (by simp; omega)).cell (ints_at hfi)
                    have htc := ((htrow.kp hK7 htb' (by simp)).kp hKr (by omega) (by simp; omega)).cell (ints_at hti)
                    have hpi := HPS.out i _ _ hin hfi hti
                    generalize fr[i]'(by omega) = x at *
                    generalize tl[i]'(by omega) = y at *
                    obtain ⟨a, ha⟩ : ∃ a, PL.md x n = a := ⟨_, rfl⟩
                    obtain ⟨b, hb⟩ : ∃ b, PL.md y n = b := ⟨_, rfl⟩
                    have hal : a < n := by rw [← ha]; exact PL.md_lt _ _ hn0
                    have hbl : b < n := by rw [← hb]; exact PL.md_lt _ _ hn0
                    have ca := mod_any x n wr hn0 (by omega)
                    have cb' := mod_any y n wr hn0 (by omega)
                    rw [ha] at ca; rw [hb] at cb'
                    rw [ha, hb] at hpi
                    have hil : i < ps.length := by rw [HPL.out]; exact hin
                    have hstep : PL.msOf n (ps.take (i + 1)) = PL.step (PL.msOf n (ps.take i)) (a, b) := by
                      rw [List.take_succ_eq_append_getElem hil, PL.msOf_snoc]
                      rw [List.getElem?_eq_getElem hil] at hpi
                      rw [Option.some.inj hpi]
                    have HSTEP : Hid (PL.msOf n (ps.take (i + 1)) = PL.step (PL.msOf n (ps.take i)) (a, b)) := hstep
                    have hminv := PL.minv_of n (ps.take i) (fun p hp => HPR.out p (List.mem_of_mem_take hp))
                    rw [List.length_take, HPL.out, Nat.min_eq_left hi] at hminv
                    have HMI : Hid (PL.MInv n i (PL.msOf n (ps.take i))) := hminv
                    clear ha hb hfi hti hpi hstep hil hminv hfrow htrow
                    generalize PL.msOf n (ps.take i) = S at *
                    go_wp2_with fail
                    refine ca.mono ?_
                    rintro e wq ⟨rfl, hwq⟩
                    rw [hwq]
                    clear ca hwq
                    go_wp2_with fail
                    refine cb'.mono ?_
                    rintro e wq2 ⟨rfl, hwq2⟩
                    rw [hwq2]
                    clear cb' hwq2
                    by_cases hab : a = b
                    · have hbe : ((a : Int) == (b : Int)) = true := by rw [beq_iff_eq]; omega
                      have HS1 : Hid (PL.step S (a, b) = S) := by unfold PL.step; exact if_pos hab
                      clear hab
                      go_wp2
                      go_roundg (np - (i + 1))
                      case measure => omega
                      case rel => exact ⟨i + 1, c, TV, rfl, by omega, by go_num, by omega, by rw [HSTEP.out, HS1.out]; exact hTG, hKr⟩
                    · have hbe : ((a : Int) == (b : Int)) = false := by rw [beq_eq_false_iff_ne]; omega
                      clear hfc htc hmm hmk23 hmk28 hmk30
                      go_upto_region 32 with fail
                      obtain ⟨kb, hkb⟩ : ∃ kb, wr.heap.size = kb := ⟨_, rfl⟩
                      have hkbl : cb + 2 ≤ kb := by rw [← hkb, ← hsz7]; exact hKr.size
                      obtain ⟨wk, hwk⟩ : ∃ wk, wk = wr.alloc (Obj.cells #[Value.int IntKind.i64 a, Value.int IntKind.i64 b] 41) := ⟨_, rfl⟩
                      have hTG1 : TgAt wk (cb + 2) (cb + 1) cb n c S.T S.ct TV := by rw [hwk]; exact hTG.grown (World.grownBy_alloc _ _ _)
                      have hK1 : Kp (cb + 2) [cb, cb + 1] w4 wk := by rw [hwk]; exact hKr.alloc (by rw [hkb]; exact hkbl) _
                      have hkey : Row wk kb 41 [.int .i64 (a : Int), .int .i64 (b : Int)] := by rw [hwk, ← hkb]; exact row_new wr _ 41
                      have hbelow : ∀ v k, TV[a]? = some v → v.ownBlock = some k → k < kb := fun v k hv hk => by rw [← hkb]; exact (owns_block (hTG.own a v hv) k hk).2.1
                      have HBELOW : Hid (∀ v k, TV[a]? = some v → v.ownBlock = some k → k < kb) := hbelow
                      have hsk : wk.heap.size = kb + 1 := by rw [hwk, World.size_alloc, hkb]
                      rw [← hwk, hkb]
                      clear hwk hkb hTG hKr hbelow
                      have mc3 := (hm7.kp hK1 (by omega) (by simp; omega)).cell (i := 3) rfl
                      have k0 := hkey.cell (i := 0) rfl
                      have k1 := hkey.cell (i := 1) rfl
                      have hlk := hTG1.look (p := (a, b)) (by show a ≤ _; omega) (by show b ≤ _; omega)
                      unfold kP at hlk
                      have hsm := HMI.out.small (a, b)
                      obtain ⟨q, hq⟩ : ∃ q, S.ct (a, b) = q := ⟨_, rfl⟩
                      rw [hq] at hlk hsm
                      have HQ : Hid (S.ct (a, b) = q) := hq
                      clear hq
                      obtain ⟨T', hT'⟩ : ∃ T', T' = if q = 0 then S.T.set a (PL.tg S.T a ++ [b]) else S.T := ⟨_, rfl⟩
                      have HT' : Hid (T' = if q = 0 then S.T.set a (PL.tg S.T a ++ [b]) else S.T) := hT'
                      clear hT'
                      go_upto_if 119 with fail
                      go_cut [] (fun wc => ∃ TV', TgAt wc (cb + 2) (cb + 1) cb n c T' S.ct TV' ∧ Kp (cb + 2) [cb, cb + 1] w4 wc ∧ Row wc kb 41 [.int .i64 (a : Int), .int .i64 (b : Int)])
                      case first =>
                        by_cases hq0 : q = 0
                        · subst hq0
                          have HE : Hid (T' = S.T.set a (PL.tg S.T a ++ [b])) := by show T' = _; rw [HT'.out, if_pos rfl]
                          have haT : a < TV.length := by rw [hTG1.len]; exact hal
                          obtain ⟨v, hv⟩ : ∃ v, TV[a]? = some v := ⟨_, List.getElem?_eq_getElem haT⟩
                          have hown0 := hTG1.own a v hv
                          have hshort := HMI.out.short a
                          obtain ⟨ao, vc, rfl, _⟩ := owns_form hown0
                          have mc2 := (hm7.kp hK1 (by omega) (by simp; omega)).cell (i := 2) rfl
                          have tc := hTG1.row.cell hv
                          have tf := hTG1.row.frozen a
                          have hne1 : some (cb + 1) ≠ Value.ownBlock (.slice ao (PL.tg S.T a).length vc) := fun e => by have := (owns_block hown0 (cb + 1) e.symm).1; omega
                          have hne2 : some kb ≠ Value.ownBlock (.slice ao (PL.tg S.T a).length vc) := fun e => by have := HBELOW.out _ kb hv e.symm; omega
                          have hlt1 := hTG1.row.lt
                          have hne0 : some (B0 + 1) ≠ Value.ownBlock (.slice ao (PL.tg S.T a).length vc) := fun e => by have := (owns_block hown0 (B0 + 1) e.symm).1; omega
                          have hlt0 : B0 + 1 < wk.heap.size := by omega
                          have hTl := HMI.out.len
                          have mc2a := fun o : Obj => (World.cell?_alloc_lt wk o ⟨B0 + 1, 2, none⟩ (by show B0 + 1 < _; omega)).trans mc2
                          have tca := fun o : Obj => (World.cell?_alloc_lt wk o ⟨cb + 1, a, none⟩ hlt1).trans tc
                          clear HT' k0 k1 hlk mc3 haT
                          go_wp2
                          go_region_law (refine step_append_lies _ (by rfl) _ _ _ (by rfl) (cb + 2) 3 i3 (.int .i64 0) 1 8 Try.underlying23 hi3 hz30 hz31 hz32 rfl (by decide) (.slice ao (PL.tg S.T a).length vc) (PL.tg S.T a).length _ (by simp [Act.eval, Act.put]) (by exact hown0.alloc _) ⟨wk.heap.size, 0, none⟩ 1 1 [.int .i64 (b : Int)] (by simp [Act.eval, Act.put]) rfl (one_at (by simp)) (by simp [Value.oneCell']) (by omega) (by unfold maxLen; omega) (by omega) (by simp; omega) (wk.heap.size + 1) (by simp) ?_; intro g cap w1 hown hgrow hat hlt2; have mc21 := (hgrow.cell_far ⟨B0 + 1, 2, none⟩ (by simp; omega) (by exact hne0)).trans ((World.cell?_alloc_lt _ _ _ hlt0).trans mc2); have tc1 := (hgrow.cell_far ⟨cb + 1, a, none⟩ (by simp; omega) (by exact hne1)).trans ((World.cell?_alloc_lt _ _ _ hlt1).trans tc); have tf1 := (hgrow.frozen_far ⟨cb + 1, a, none⟩ (by simp; omega) (by exact hne1)).trans ((World.frozen?_alloc_past _ _ _ hlt1).trans tf))
                          all_goals
                            have R := hTG1.append (W1 := (wk.alloc (Obj.cells #[Value.int IntKind.i64 b] 3)).drew) (by omega) (by omega) (by omega) hal hTl hv (grown_drew (World.grownBy_alloc _ _ _)) hgrow hown (by rcases hat with h | h; exact .inl h; exact .inr (by omega))
                            have hK3 := (((hK1.alloc (by omega) (Obj.cells #[Value.int IntKind.i64 b] 3)).drew).grown hgrow (by show cb + 2 ≤ (wk.alloc (Obj.cells #[Value.int IntKind.i64 b] 3)).heap.size; rw [World.size_alloc]; omega) (fun k hk => .inl (owns_block hown0 k hk).1)).setCell (b := cb + 1) (o := a) (.inr (by simp)) (.slice (some ⟨g, 0, none⟩) ((PL.tg S.T a).length + 1) cap)
                            have hkey3 := (((hkey.alloc (Obj.cells #[Value.int IntKind.i64 b] 3)).drew).kept hgrow hne2).setOther (c := cb + 1) (o := a) (by omega) (.slice (some ⟨g, 0, none⟩) ((PL.tg S.T a).length + 1) cap)
                            clear hown hgrow hat hlt2 mc21 tc1 tf1 hTG1 hK1 hkey mc2a tca hown0
                            go_wp2
                            go_meet
                            case rel => exact ⟨_, by rw [HE.out]; exact R, hK3, hkey3⟩
                        · have hqb : ((q : Int) == 0) = false := by rw [beq_eq_false_iff_ne]; omega
                          have e : T' = S.T := by rw [HT'.out, if_neg hq0]
                          subst e
                          clear HT' hq0
                          go_wp2
                          go_meet
                          case rel => exact ⟨TV, hTG1, hK1, hkey⟩
                      case rest =>
                        obtain ⟨TV', hTG2, hK2, hkey2⟩ := hcut
                        clear hTG1 hK1 hkey mc3 k0 k1 hlk HBELOW hsk
                        have mc3 := (hm7.kp hK2 (by omega) (by simp; omega)).cell (i := 3) rfl
                        have k0 := hkey2.cell (i := 0) rfl
                        have k1 := hkey2.cell (i := 1) rfl
                        have hTG3 : TgAt wc.drew (cb + 2) (cb + 1) cb n c T' S.ct TV' := hTG2.grown (grown_drew (grown_refl _ _))
                        have hlk := hTG3.look (p := (a, b)) (by show a ≤ _; omega) (by show b ≤ _; omega)
                        obtain ⟨w5, c', hup, hg5, hc5, hTG5⟩ := hTG3.count (p := (a, b)) (by omega) (by omega) (by omega) (by show a ≤ _; omega) (by show b ≤ _; omega) (by rw [HQ.out]; omega)
                        unfold kP at hlk hup
                        rw [HQ.out] at hlk hup
                        have hK5 : Kp (cb + 2) [cb, cb + 1] w4 w5 := hK2.drew.grown hg5 (by have := hkey2.lt; show cb + 2 ≤ wc.heap.size; omega) (fun k hk => .inr (by cases hk; simp))
                        have HFIN : Hid (TgAt w5 (cb + 2) (cb + 1) cb n c' (PL.step S (a, b)).T (PL.step S (a, b)).ct TV') := by
                          show TgAt w5 (cb + 2) (cb + 1) cb n c' (PL.step S (a, b)).T (PL.step S (a, b)).ct TV'
                          unfold PL.step
                          rw [if_neg (show ¬ (a, b).1 = (a, b).2 from hab)]
                          rw [HT'.out, ← HQ.out] at hTG5
                          exact hTG5
                        clear hTG2 hTG3 hTG5 HT' hab hkey2 hK2 hg5
                        go_wp2_with fail
                        go_region
                        all_goals
                          go_wp2
                          go_roundg (np - (i + 1))
                          case measure => omega
                          case rel => exact ⟨i + 1, c', TV', rfl, by omega, by go_num, by omega, by rw [HSTEP.out]; exact HFIN.out, hK5⟩
                  · have e : np = i := by omega
                    subst e
                    have hall : ps.take np = ps := List.take_of_length_le (by rw [HPL.out]; omega)
                    rw [hall] at hTG
                    have hminv := PL.minv_of n ps HPR.out
                    rw [HPL.out] at hminv
                    have HMI : Hid (PL.MInv n np (PL.msOf n ps)) := hminv
                    clear hall hminv HPS HFR HTR
                    generalize PL.msOf n ps = S at *
                    have hm8 := hm7.kp hKr (by omega) (by simp; omega)
                    have hres8 := hres7.kp hKr (by omega) (by simp; omega)
                    have hR8 := hR7.kp hKr (by omega) (by simp; omega)
                    have hK8 : Kp B0 [] w wr := hK7.trans (hKr.mono (by omega) (fun k h1 h2 => by simp at h2; omega))
                    have hsz8 : cb + 2 ≤ wr.heap.size := by rw [← hsz7]; exact hKr.size
                    clear hm7 hres7 hR7 hK7 hKr hsz7
                    have mc4 := hm8.cell (i := 4) rfl
                    have mc5 := hm8.cell (i := 5) rfl
                    have mf4 := hm8.frozen 4
                    have mf5 := hm8.frozen 5
                    have hmlt := hm8.lt
                    have hmlt2 : B0 + 1 < wr.heap.size + 1 := by omega
                    go_wp2
                    have HBEL : Hid (∀ (a : Nat) (v : Value) (k : Nat), TV[a]? = some v → v.ownBlock = some k → k < wr.heap.size) := fun a v k hv hk => (owns_block (hTG.own a v hv) k hk).2.1
                    obtain ⟨lb, hlb⟩ : ∃ lb, wr.heap.size = lb := ⟨_, rfl⟩
                    obtain ⟨w5, hw5⟩ : ∃ w5, w5 = ((((wr.setCell ⟨B0 + 1, 5, none⟩ (Value.slice (some ⟨wr.heap.size, 0, none⟩) n n)).setCell ⟨B0 + 1, 4, none⟩ (Value.slice (some ⟨wr.heap.size + 1, 0, none⟩) n n)).alloc (Obj.cells (madeCells #[Value.int IntKind.i64 0] n) 3)).alloc (Obj.cells (madeCells #[Value.slice none 0 0] n) 23)) := ⟨_, rfl⟩
                    have hm9 : Row w5 (B0 + 1) 32 (mcells n (.slice (some ⟨rb, 0, none⟩) n n) (.slice (some ⟨cb + 1, 0, none⟩) n n) (.map (some cb)) (.slice (some ⟨lb + 1, 0, none⟩) n n) (.slice (some ⟨lb, 0, none⟩) n n) (.slice none 0 0) 0) := by
                      rw [hw5, hlb]; exact (((hm8.set 5 _).set 4 _).alloc _).alloc _
                    have hres9 : Row w5 B0 32 (mcells 0 (.slice none 0 0) (.slice none 0 0) (.map none) (.slice none 0 0) (.slice none 0 0) (.slice none 0 0) 0) := by
                      rw [hw5]; exact (((hres8.setOther (by omega) _).setOther (by omega) _).alloc _).alloc _
                    have hR9 : Row w5 rb 3 (nats rk) := by rw [hw5]; exact (((hR8.setOther (by omega) _).setOther (by omega) _).alloc _).alloc _
                    have hK9 : Kp B0 [] w w5 := by rw [hw5]; exact (((hK8.setCell (.inl (by omega)) _).setCell (.inl (by omega)) _).alloc (by rw [size_setCell, size_setCell]; omega) _).alloc (by rw [World.size_alloc, size_setCell, size_setCell]; omega) _
                    have hsz9 : w5.heap.size = lb + 2 := by rw [hw5, World.size_alloc, World.size_alloc, size_setCell, size_setCell, hlb]
                    have hL9 : Row w5 lb 3 (nats (List.replicate n 0)) := by
                      have h := row_made ((wr.setCell ⟨B0 + 1, 5, none⟩ (Value.slice (some ⟨wr.heap.size, 0, none⟩) n n)).setCell ⟨B0 + 1, 4, none⟩ (Value.slice (some ⟨wr.heap.size + 1, 0, none⟩) n n)) (.int .i64 0) n 3
                      rw [size_setCell, size_setCell, hlb] at h
                      rw [hw5, hlb, ← nats_replicate]; exact h.alloc _
                    have hJ9 : Row w5 (lb + 1) 23 (List.replicate n (.slice none 0 0)) := by
                      have h := row_made (((wr.setCell ⟨B0 + 1, 5, none⟩ (Value.slice (some ⟨wr.heap.size, 0, none⟩) n n)).setCell ⟨B0 + 1, 4, none⟩ (Value.slice (some ⟨wr.heap.size + 1, 0, none⟩) n n)).alloc (Obj.cells (madeCells #[Value.int IntKind.i64 0] n) 3)) (.slice none 0 0) n 23
                      rw [World.size_alloc, size_setCell, size_setCell, hlb] at h
                      rw [hw5, hlb]; exact h
                    have hT9 : TgAt w5 (cb + 2) (cb + 1) cb n c S.T S.ct TV := by
                      rw [hw5]
                      exact (((hTG.keep (grown_set wr (B0 + 1) 5 _) (by omega) (by omega) (by omega)).keep (grown_set _ (B0 + 1) 4 _) (by omega) (by omega) (by omega)).grown (World.grownBy_alloc _ _ _)).grown (World.grownBy_alloc _ _ _)
                    rw [← hw5, hlb]
                    rw [hlb] at HBEL hsz8
                    clear hw5 hlb hm8 hres8 hR8 hK8 hTG mc4 mc5 mf4 mf5 hmlt hmlt2
                    have hjn0 := jn0 (base := lb + 2) hJ9
                    clear hJ9
                    have HRL2 : Hid (rk.length = n) := HRL
                    have HC : Hid (c ≤ np) := hc
                    clear hc hin
                    refine build_loop5 n np B0 rb cb lb c S TV rk w5 hn0 hn (by omega) hrblt hrblt2 hsz8 HRL HMI HBEL hm9 hR9 hsz9 hL9 hT9 hjn0 (fun u19 u20 u21 u22 u23 u24 u25 u26 u27 u28 u29 u30 u31 u32 u33 u34 u35 u36 u37 u38 u39 u40 u41 u42 u43 u44 u45 u46 u47 u48 u49 u50 u51 u52 u53 u54 u55 u56 u57 u58 u59 u60 u61 u62 u63 u64 u65 u66 u67 u68 u69 u70 u71 u72 u73 u74 u75 u76 u77 u78 u79 u80 u81 u82 u83 u84 u85 u86 u87 u88 u89 u90 u91 u92 u93 u94 u95 u96 u97 u98 u99 u100 u101 u102 u103 u104 u105 u106 u107 u108 u109 u110 u111 u112 u113 u114 u115 u116 u117 u118 u119 u120 u121 u122 u123 u124 u125 u126 u127 u128 u129 u130 u131 u132 u133 u134 u135 u136 u137 u138 u139 u140 u141 u142 u143 u144 u145 u146 u147 u148 u149 u150 u151 u152 u153 u154 u155 u156 u157 u158 u159 u160 u161 u162 u163 u164 u165 u166 u167 u168 u169 u170 u171 u172 u173 u174 u175 u176 u177 u178 u179 u180 u181 u182 u183 u184 u185 u186 u187 u188 u189 u190 u191 u192 u193 u194 u195 u196 u197 u198 u199 u200 u201 u202 u203 u204 u205 u206 u207 u208 u209 u210 u211 u212 u213 u214 u215 u216 u217 u218 u219 u220 u221 u222 u223 u224 u225 u226 u227 u228 u229 u230 u231 u232 u233 u234 u235 u236 wa hP5 => ?_)
                    clear hjn0 hL9
                    obtain ⟨ls, J, JV, hls, hL, hJ, hJP, hKr⟩ := hP5
                    have hlsl := hls.len
                    have HLSF : Hid (LsOK S.T n n 0 ls) := hls
                    have HJP : Hid (∀ k, k < n → (PL.tg J k).Perm (flt S.T S.ct k (PL.tg S.T k).length) ∧ (PL.tg J k).Pairwise (fun x y => PL.rankLe rk x y = true)) := hJP
                    have hTw := hT9.kp hKr hsz9.symm (by simp; omega) (by simp; omega) (fun a v k hv hk => by have := HBEL.out a v k hv hk; simp; omega)
                    have hmw := hm9.kp hKr (by omega) (by simp; omega)
                    have hresw := hres9.kp hKr (by omega) (by simp; omega)
                    have hRw := hR9.kp hKr (by omega) (by simp; omega)
                    have hKw : Kp B0 [] w wa := hK9.trans (hKr.mono (by omega) (fun k h1 h2 => by simp at h2; omega))
                    have hszw : lb + 2 ≤ wa.heap.size := by rw [← hsz9]; exact hKr.size
                    clear hls hJP hT9 hm9 hres9 hR9 hK9 hKr hsz9
                    have mc6 := hmw.cell (i := 6) rfl
                    have mf6 := hmw.frozen 6
                    have hmlt := hmw.lt
                    go_wp2_with fail
                    obtain ⟨hb, hhb⟩ : ∃ hb, wa.heap.size = hb := ⟨_, rfl⟩
                    obtain ⟨w6, hw6⟩ : ∃ w6, w6 = ((wa.setCell ⟨B0 + 1, 6, none⟩ (Value.slice (some ⟨wa.heap.size, 0, none⟩) n n)).alloc (Obj.cells (madeCells #[Value.bool false] n) 4)) := ⟨_, rfl⟩
                    have hm6 : Row w6 (B0 + 1) 32 (mcells n (.slice (some ⟨rb, 0, none⟩) n n) (.slice (some ⟨cb + 1, 0, none⟩) n n) (.map (some cb)) (.slice (some ⟨lb + 1, 0, none⟩) n n) (.slice (some ⟨lb, 0, none⟩) n n) (.slice (some ⟨hb, 0, none⟩) n n) 0) := by
                      rw [hw6, hhb]; exact (hmw.set 6 _).alloc _
                    have hH6 : Row w6 hb 4 (bools (PL.hds S.T ls 0) ++ List.replicate (n - 0) (.bool false)) := by
                      have h := row_made (wa.setCell ⟨B0 + 1, 6, none⟩ (Value.slice (some ⟨wa.heap.size, 0, none⟩) n n)) (.bool false) n 4
                      rw [size_setCell, hhb] at h
                      rw [hw6, hhb]; simpa [PL.hds, bools] using h
                    have hK6 : Kp hb [B0 + 1] wa w6 := by
                      rw [hw6, ← hhb]; exact ((Kp.refl _ _ _).setCell (.inr (by simp)) _).alloc (by rw [size_setCell]; exact Nat.le_refl _) _
                    rw [← hw6, hhb]
                    rw [hhb] at hmlt hszw
                    clear hw6 mc6 mf6
                    have HLCN : Hid (hb = wa.heap.size) := hhb.symm
                    clear hhb
                    go_loopg [22] n (fun g s wr => ∃ (k : Nat), g = n - k ∧ k ≤ n ∧ s = .int .i64 k ∧ Row wr hb 4 (bools (PL.hds S.T ls k) ++ List.replicate (n - k) (.bool false)) ∧ Row wr (B0 + 1) 32 (mcells n (.slice (some ⟨rb, 0, none⟩) n n) (.slice (some ⟨cb + 1, 0, none⟩) n n) (.map (some cb)) (.slice (some ⟨lb + 1, 0, none⟩) n n) (.slice (some ⟨lb, 0, none⟩) n n) (.slice (some ⟨hb, 0, none⟩) n n) (PL.hc S.T ls k : Int)) ∧ Kp hb [B0 + 1] wa wr)
                    case atStart => exact ⟨0, rfl, by omega, rfl, hH6, hm6, hK6⟩
                    case round =>
                      clear hH6 hm6 hK6
                      obtain ⟨k, rfl, hk, rfl, hH, hmk, hKk⟩ := hrel
                      by_cases hkn : k < n
                      · have hTk := hTw.kp hKk HLCN.out (by simp; omega) (by simp; omega) (fun a v q hv hq => by have := (owns_block (hTw.own a v hv) q hq).1; simp; omega)
                        have hkT : k < TV.length := by rw [hTk.len]; exact hkn
                        obtain ⟨tv, htv⟩ : ∃ tv, TV[k]? = some tv := ⟨_, List.getElem?_eq_getElem hkT⟩
                        have hown := hTk.own k tv htv
                        obtain ⟨ao, tc, rfl, _⟩ := owns_form hown
                        have tcell := hTk.row.cell htv
                        obtain ⟨x, hx⟩ : ∃ x, ls[k]? = some x := ⟨_, List.getElem?_eq_getElem (by rw [hlsl]; exact hkn)⟩
                        have hxc := (hL.kp hKk (by omega) (by simp; omega)).cell (nats_at hx)
                        have hlk : (bools (PL.hds S.T ls k)).length = k := by rw [bools_len, PL.hds_len]
                        have hhc := hH.cell (i := k) (v := .bool false) (by rw [List.getElem?_append_right (by omega), hlk, Nat.sub_self, List.getElem?_replicate, if_pos (by omega)])
                        have hhf := hH.frozen k
                        have c2 := hmk.cell (i := 2) rfl
                        have c5 := hmk.cell (i := 5) rfl
                        have c6 := hmk.cell (i := 6) rfl
                        have c7 := hmk.cell (i := 7) rfl
                        have f7 := hmk.frozen 7
                        have hsh := HMI.out.short k
                        obtain ⟨tk, htk⟩ : ∃ tk, (PL.tg S.T k).length = tk := ⟨_, rfl⟩
                        rw [htk] at tcell hsh
                        obtain ⟨bv, hbv⟩ : ∃ bv, PL.hdB S.T ls k = bv := ⟨_, rfl⟩
                        have hbv2 := hbv
                        unfold PL.hdB at hbv2
                        rw [htk, hx, Option.getD_some] at hbv2
                        have HBV : Hid (PL.hdB S.T ls k = bv) := hbv
                        have hH' : Row ((wr.drew).setCell ⟨hb, k, none⟩ (.bool bv)) hb 4 (bools (PL.hds S.T ls (k + 1)) ++ List.replicate (n - (k + 1)) (.bool false)) := by
                          have := hH.drew.set k (.bool bv)
                          rw [← hbv, hds_part S.T ls n k hkn, hbv] at this; exact this
                        have hm' := hmk.drew.setOther (c := hb) (o := k) (by omega) (.bool bv)
                        have hK' := hKk.drew.setCell (b := hb) (o := k) (.inl (Nat.le_refl _)) (.bool bv)
                        have hhcl := PL.hc_le S.T ls k
                        have hhcs := PL.hc_succ S.T ls k
                        rw [hbv] at hhcs
                        generalize PL.hc S.T ls k = hcn at *
                        obtain ⟨hcn1, hcn1e⟩ : ∃ z, PL.hc S.T ls (k + 1) = z := ⟨_, rfl⟩
                        rw [hcn1e] at hhcs
                        have HHC : Hid (PL.hc S.T ls (k + 1) = hcn1) := hcn1e
                        clear hcn1e
                        have hne : B0 + 1 ≠ hb := by omega
                        have hcase : (((k : Int) == 0) = true ∧ bv = true) ∨ (((k : Int) == 0) = false ∧ 0 < tk ∧ bv = true) ∨ (((k : Int) == 0) = false ∧ tk = 0 ∧ 0 < x ∧ bv = true) ∨ (((k : Int) == 0) = false ∧ tk = 0 ∧ x = 0 ∧ bv = false) := by
                          rw [← hbv2, beq_eq_false_iff_ne, beq_iff_eq]
                          by_cases h1 : k = 0
                          · left; simp [h1]
                          · by_cases h2 : 0 < tk
                            · right; left; exact ⟨by omega, h2, by simp [h2]⟩
                            · by_cases h3 : 0 < x
                              · right; right; left; exact ⟨by omega, by omega, h3, by simp [h3]⟩
                              · right; right; right; exact ⟨by omega, by omega, by omega, by simp [h1, h2, h3]⟩
                        clear hH hmk hKk hTk hown hbv hbv2 hx hkT hlk hmm hmk23 hmk28 hmk30 htk
                        have hyes : ∀ (Z : World), Row Z (B0 + 1) 32 (mcells n (.slice (some ⟨rb, 0, none⟩) n n) (.slice (some ⟨cb + 1, 0, none⟩) n n) (.map (some cb)) (.slice (some ⟨lb + 1, 0, none⟩) n n) (.slice (some ⟨lb, 0, none⟩) n n) (.slice (some ⟨hb, 0, none⟩) n n) (hcn : Int)) → Row (Z.setCell ⟨B0 + 1, 7, none⟩ (.int .i64 ((hcn : Int) + 1))) (B0 + 1) 32 (mcells n (.slice (some ⟨rb, 0, none⟩) n n) (.slice (some ⟨cb + 1, 0, none⟩) n n) (.map (some cb)) (.slice (some ⟨lb + 1, 0, none⟩) n n) (.slice (some ⟨lb, 0, none⟩) n n) (.slice (some ⟨hb, 0, none⟩) n n) ((hcn : Int) + 1)) := fun Z hZ => hZ.set 7 _
                        have HYES : Hid (∀ (Z : World), Row Z (B0 + 1) 32 (mcells n (.slice (some ⟨rb, 0, none⟩) n n) (.slice (some ⟨cb + 1, 0, none⟩) n n) (.map (some cb)) (.slice (some ⟨lb + 1, 0, none⟩) n n) (.slice (some ⟨lb, 0, none⟩) n n) (.slice (some ⟨hb, 0, none⟩) n n) (hcn : Int)) → Row (Z.setCell ⟨B0 + 1, 7, none⟩ (.int .i64 ((hcn : Int) + 1))) (B0 + 1) 32 (mcells n (.slice (some ⟨rb, 0, none⟩) n n) (.slice (some ⟨cb + 1, 0, none⟩) n n) (.map (some cb)) (.slice (some ⟨lb + 1, 0, none⟩) n n) (.slice (some ⟨lb, 0, none⟩) n n) (.slice (some ⟨hb, 0, none⟩) n n) ((hcn : Int) + 1))) := hyes
                        clear hyes
                        rcases hcase with ⟨hkb, rfl⟩ | ⟨hkb, htk0, rfl⟩ | ⟨hkb, rfl, hx0, rfl⟩ | ⟨hkb, rfl, rfl, rfl⟩
                        · have e1 : hcn1 = hcn + 1 := by simpa using hhcs
                          clear hhcs
                          go_wp2_with fail
                          go_region
                          all_goals
                            go_wp2
                            go_roundg (n - (k + 1))
                            case measure => omega
                            case rel => exact ⟨k + 1, rfl, by omega, by go_num, hH'.setOther (by omega) _, by rw [HHC.out, e1, Int.natCast_add]; exact HYES.out _ hm', hK'.setCell (.inr (by simp)) _⟩
                        · have e1 : hcn1 = hcn + 1 := by simpa using hhcs
                          have g1 : decide ((0 : Int) < (tk : Int)) = true := by simp; omega
                          have g2 : decide (0 < tk) = true := by simp; omega
                          clear hhcs
                          go_wp2_with fail
                          go_region
                          all_goals
                            go_wp2
                            go_roundg (n - (k + 1))
                            case measure => omega
                            case rel => exact ⟨k + 1, rfl, by omega, by go_num, hH'.setOther (by omega) _, by rw [HHC.out, e1, Int.natCast_add]; exact HYES.out _ hm', hK'.setCell (.inr (by simp)) _⟩
                        · have e1 : hcn1 = hcn + 1 := by simpa using hhcs
                          have g1 : decide ((0 : Int) < (x : Int)) = true := by simp; omega
                          have g2 : decide (0 < x) = true := by simp; omega
                          clear hhcs
                          go_wp2_with fail
                          go_region
                          all_goals
                            go_wp2
                            go_roundg (n - (k + 1))
                            case measure => omega
                            case rel => exact ⟨k + 1, rfl, by omega, by go_num, hH'.setOther (by omega) _, by rw [HHC.out, e1, Int.natCast_add]; exact HYES.out _ hm', hK'.setCell (.inr (by simp)) _⟩
                        · have e1 : hcn1 = hcn := by simpa using hhcs
                          clear hhcs
                          go_wp2_with fail
                          go_region
                          all_goals
                            go_wp2
                            go_roundg (n - (k + 1))
                            case measure => omega
                            case rel => exact ⟨k + 1, rfl, by omega, by go_num, hH', by rw [HHC.out, e1]; exact hm', hK'⟩
                      · have e : n = k := by omega
                        subst e
                        have hH2 : Row wr hb 4 (bools (PL.hds S.T ls n)) := by
                          have := hH; rw [Nat.sub_self, List.replicate_zero, List.append_nil] at this; exact this
                        have hlc := HLCN.out
                        have hres := hresw.kp hKk (by omega) (by simp)
                        have hKn : Kp B0 [] w wr := hKw.trans (hKk.mono (by omega) (fun q h1 h2 => by simp at h2; omega))
                        have hKk2 : Kp hb [B0 + 1, B0] wa wr := hKk.mono (Nat.le_refl _) (fun q h1 h2 => by simp at h2; simp [h2])
                        have m0 := hmk.cell (i := 0) rfl
                        have m1 := hmk.cell (i := 1) rfl
                        have m2 := hmk.cell (i := 2) rfl
                        have m3 := hmk.cell (i := 3) rfl
                        have m4 := hmk.cell (i := 4) rfl
                        have m5 := hmk.cell (i := 5) rfl
                        have m6 := hmk.cell (i := 6) rfl
                        have m7 := hmk.cell (i := 7) rfl
                        have r0 := hres.cell (i := 0) rfl
                        have r1 := hres.cell (i := 1) rfl
                        have r2 := hres.cell (i := 2) rfl
                        have r3 := hres.cell (i := 3) rfl
                        have r4 := hres.cell (i := 4) rfl
                        have r5 := hres.cell (i := 5) rfl
                        have r6 := hres.cell (i := 6) rfl
                        have r7 := hres.cell (i := 7) rfl
                        have f0 := hres.frozen 0
                        have f1 := hres.frozen 1
                        have f2 := hres.frozen 2
                        have f3 := hres.frozen 3
                        have f4 := hres.frozen 4
                        have f5 := hres.frozen 5
                        have f6 := hres.frozen 6
                        have f7 := hres.frozen 7
                        clear hmm hmk23 hmk28 hmk30 hkn hlc
                        generalize hhcv : PL.hc S.T ls n = hcv at *
                        have HHC : Hid (PL.hc S.T ls n = hcv) := hhcv
                        clear hhcv
                        go_wp2
                        have R2 := row_set8 hres (.int .i64 (n : Int)) (.slice (some ⟨rb, 0, none⟩) n n) (.slice (some ⟨cb + 1, 0, none⟩) n n) (.map (some cb)) (.slice (some ⟨lb + 1, 0, none⟩) n n) (.slice (some ⟨lb, 0, none⟩) n n) (.slice (some ⟨hb, 0, none⟩) n n) (.int .i64 (hcv : Int))
                        have hKf1 := kp_set8 hKn (.inl (Nat.le_refl B0)) (.int .i64 (n : Int)) (.slice (some ⟨rb, 0, none⟩) n n) (.slice (some ⟨cb + 1, 0, none⟩) n n) (.map (some cb)) (.slice (some ⟨lb + 1, 0, none⟩) n n) (.slice (some ⟨lb, 0, none⟩) n n) (.slice (some ⟨hb, 0, none⟩) n n) (.int .i64 (hcv : Int))
                        have hKf2 := kp_set8 hKk2 (.inr (by simp)) (b := B0) (.int .i64 (n : Int)) (.slice (some ⟨rb, 0, none⟩) n n) (.slice (some ⟨cb + 1, 0, none⟩) n n) (.map (some cb)) (.slice (some ⟨lb + 1, 0, none⟩) n n) (.slice (some ⟨lb, 0, none⟩) n n) (.slice (some ⟨hb, 0, none⟩) n n) (.int .i64 (hcv : Int))
                        have hKf3 := kp_set8 (Kp.refl (hb + 1) [B0] wr) (.inr (by simp)) (b := B0) (.int .i64 (n : Int)) (.slice (some ⟨rb, 0, none⟩) n n) (.slice (some ⟨cb + 1, 0, none⟩) n n) (.map (some cb)) (.slice (some ⟨lb + 1, 0, none⟩) n n) (.slice (some ⟨lb, 0, none⟩) n n) (.slice (some ⟨hb, 0, none⟩) n n) (.int .i64 (hcv : Int))
                        generalize (((((((((wr).setCell ⟨B0, 0, none⟩ (Value.int IntKind.i64 n)).setCell ⟨B0, 1, none⟩ (.slice (some ⟨rb, 0, none⟩) n n)).setCell ⟨B0, 2, none⟩ (.slice (some ⟨cb + 1, 0, none⟩) n n)).setCell ⟨B0, 3, none⟩ (Value.map (some cb))).setCell ⟨B0, 4, none⟩ (.slice (some ⟨lb + 1, 0, none⟩) n n)).setCell ⟨B0, 5, none⟩ (.slice (some ⟨lb, 0, none⟩) n n)).setCell ⟨B0, 6, none⟩ (.slice (some ⟨hb, 0, none⟩) n n)).setCell ⟨B0, 7, none⟩ (Value.int IntKind.i64 hcv)) = W9 at *
                        have s0 := R2.cell (i := 0) rfl
                        have s1 := R2.cell (i := 1) rfl
                        have s2 := R2.cell (i := 2) rfl
                        have s3 := R2.cell (i := 3) rfl
                        have s4 := R2.cell (i := 4) rfl
                        have s5 := R2.cell (i := 5) rfl
                        have s6 := R2.cell (i := 6) rfl
                        have s7 := R2.cell (i := 7) rfl
                        have hlc := HLCN.out
                        have hTk := hTw.kp hKf2 HLCN.out (by simp; omega) (by simp; omega) (fun a v q hv hq => by have := (owns_block (hTw.own a v hv) q hq).1; simp; omega)
                        have hJk := hJ.kpS (S := [B0 + 1, B0]) (by rw [← hlc]; exact hKf2) (by simp; omega) (fun q hq => by simp at hq; omega)
                        have hLk := hL.kp hKf2 (by omega) (by simp; omega)
                        have hRk := hRw.kp hKf2 (by omega) (by simp; omega)
                        have hHk := hH2.kp hKf3 (by omega) (by simp; omega)
                        have hnp6 : np ≤ 65536 := by omega
                        have hMI := HMI.out
                        refine bodyPost_ret (v := .tuple #[meshV n ⟨rb, cb + 1, cb, lb + 1, lb, hb, cb + 2, c, TV, JV⟩ hcv, .bool true]) (by simp [results, Try.results15, go_sem, s0, s1, s2, s3, s4, s5, s6, s7, meshV, slc]) rfl ?_
                        refine .inr ⟨⟨rb, cb + 1, cb, lb + 1, lb, hb, cb + 2, c, TV, JV⟩, ⟨rk, S, J, ls⟩, ?_, ?_, ⟨hRk, hTk, JnAt.base (base' := cb + 2) hJk (by omega), hLk, hHk⟩, by rw [HB0.out]; exact hKf1⟩
                        · rw [← HHC.out]
                        · exact ⟨hn0, hn, HNL.out, HRANK.out, ⟨hMI.len, hMI.mem, hMI.nodup, hMI.rng, fun p => Nat.le_trans (hMI.small p) hnp6, fun a => Nat.le_trans (hMI.short a) hnp6⟩, hJ.jl, fun k hk => by have := (HJP.out k hk).1; unfold flt at this; rw [List.take_length] at this; exact this, fun k hk => (HJP.out k hk).2, hlsl, fun k hk b hb => HLSF.out.pos k hk b hb, fun k => by have := HLSF.out.small k; show ls[k]?.getD 0 ≤ _; omega⟩
end Go.Proofs.Qxb6600010a
