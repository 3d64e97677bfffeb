import Derived.Test.YbulkdxpkC
namespace Go.Proofs.Ybulkdxpk
open Go.RowKit
set_option linter.unusedVariables false

theorem Yba.info26 : (Yba.prog.info? 26).map (fun i => (i.zero, i.size, i.bytes)) = some (some (.agg #[.string ⟨#[]⟩, .string ⟨#[]⟩, .slice none 0 0, .slice none 0 0, .slice none 0 0, .int .i64 0, .slice none 0 0]), 7, 136) := by kernel_rfl
theorem heap_setCell {w : World} {b o : Nat} {cs : Array Value} {t : TypeId} {fr : Nat × Nat} {v : Value} (h : w.heap[b]? = some (.cells cs t fr)) : (w.setCell ⟨b, o, none⟩ v).heap[b]? = some (.cells (cs.setIfInBounds o v) t fr) := by
  simp [World.setCell, Array.getElem?_modify, h]
theorem run_make_n {P : Program} (t e : TypeId) (z : Value) (size bytes : Nat) (ht : P.underlying t = some (.slice e)) (hi : (P.info? e).map (fun i => (i.zero, i.size, i.bytes)) = some (some z, size, bytes))
    (n : Nat) (hb : bytes * n ≤ 281474976710656) (h63 : n ≤ 9223372036854775807) (w : World) :
    (Instr.makeSlice t (.int .i64 (n : Int)) (.int .i64 (n : Int))).run P w = .ok (.slice (some ⟨w.heap.size, 0, none⟩) n n) (w.alloc (.cells (madeCells z.cells (n * size)) e)) := by
  obtain ⟨i, h1, h2, h3, h4⟩ := info_parts hi
  have hb' : (i.bytes : Int) * (n : Int) ≤ 281474976710656 := by
    rw [h4]
    have h : ((bytes * n : Nat) : Int) ≤ 281474976710656 := by omega
    rwa [Int.natCast_mul] at h
  have hr := run_make (P := P) w t e i z ht h1 h2 .i64 .i64 n n (by omega) (Int.le_refl _) hb' (by omega)
  simpa [h3] using hr

/-- the three blocks of the copy: the argument, the result, the copy -/
structure CP (w W : World) (A B C : Array Value) : Prop where
  below : Below w.heap.size w W
  size : w.heap.size + 2 < W.heap.size
  a : W.heap[w.heap.size]? = some (.cells A 26 (0, 0))
  b : W.heap[w.heap.size + 1]? = some (.cells B 26 (0, 0))
  c : W.heap[w.heap.size + 2]? = some (.cells C 26 (0, 0))
theorem CP.new (w : World) (A B C : Array Value) : CP w (((w.alloc (.cells A 26)).alloc (.cells B 26)).alloc (.cells C 26)) A B C := by
  refine ⟨(((Below.refl _ _).alloc (Nat.le_refl _) _).alloc (by simp) _).alloc (by simp; omega) _, by simp, ?_, ?_, ?_⟩
  · rw [heap_alloc_old _ _ (by simp; omega), heap_alloc_old _ _ (by simp), heap_alloc_new]
  · rw [heap_alloc_old _ _ (by simp)]
    have h := heap_alloc_new (w.alloc (.cells A 26)) (.cells B 26)
    rwa [World.size_alloc] at h
  · have h := heap_alloc_new ((w.alloc (.cells A 26)).alloc (.cells B 26)) (.cells C 26)
    rwa [World.size_alloc, World.size_alloc] at h
theorem CP.on {w W W' : World} {A B C : Array Value} (h : CP w W A B C) (hb : Below W.heap.size W W') : CP w W' A B C :=
  ⟨h.below.trans (hb.mono h.below.size), Nat.lt_of_lt_of_le h.size hb.size, by rw [hb.block _ (by have := h.size; omega)]; exact h.a, by rw [hb.block _ (by have := h.size; omega)]; exact h.b, by rw [hb.block _ h.size]; exact h.c⟩
theorem CP.setC {w W : World} {A B C : Array Value} (h : CP w W A B C) (o : Nat) (v : Value) : CP w (W.setCell ⟨w.heap.size + 2, o, none⟩ v) A B (C.setIfInBounds o v) :=
  ⟨h.below.setCell (by simp) _, by simp [World.setCell]; exact h.size, by rw [Below.heap_setCell _ _ _ _ (by simp)]; exact h.a, by rw [Below.heap_setCell _ _ _ _ (by simp)]; exact h.b, heap_setCell h.c⟩
theorem cells7 {w : World} {b : Nat} {u0 u1 u2 u3 u4 u5 u6 : Value} {t : TypeId} (h : w.heap[b]? = some (.cells #[u0, u1, u2, u3, u4, u5, u6] t (0, 0))) :
    w.cell? ⟨b, 0, none⟩ = some u0 ∧ w.cell? ⟨b, 1, none⟩ = some u1 ∧ w.cell? ⟨b, 2, none⟩ = some u2 ∧ w.cell? ⟨b, 3, none⟩ = some u3 ∧ w.cell? ⟨b, 4, none⟩ = some u4 ∧ w.cell? ⟨b, 5, none⟩ = some u5 ∧ w.cell? ⟨b, 6, none⟩ = some u6 := by
  simp [World.cell?, h]
theorem frozen7 {w : World} {b : Nat} {C : Array Value} {t : TypeId} (h : w.heap[b]? = some (.cells C t (0, 0))) (o : Nat) : w.frozen? ⟨b, o, none⟩ = false := by
  simp [World.frozen?, h]
theorem IsS.set {lo : Nat} {w : World} {x : Option Addr} {c : Nat} {q : SL} (h : IsS lo w x c q) {b : Nat} (hb : b < lo) (o : Nat) (v : Value) : IsS lo (w.setCell ⟨b, o, none⟩ v) x c q :=
  h.keep (by simp [World.setCell]) (fun b' o' h1 h2 => World.cell?_of_block (Below.heap_setCell _ _ _ _ (by show b' ≠ b; omega)))

theorem put7 {w1 : World} {J n k : Nat} {M : Array Value} {y0 y1 y2 y3 y4 y5 y6 : Value} (hJ : w1.heap[J]? = some (.cells M 26 (0, 0))) (hs : M.size = n * 7) (hk : k < n) :
    ∃ W, W = (((((((w1.setCell ⟨J, k * 7, none⟩ y0).setCell ⟨J, k * 7 + 1, none⟩ y1).setCell ⟨J, k * 7 + 2, none⟩ y2).setCell ⟨J, k * 7 + 3, none⟩ y3).setCell ⟨J, k * 7 + 4, none⟩ y4).setCell ⟨J, k * 7 + 5, none⟩ y5).setCell ⟨J, k * 7 + 6, none⟩ y6) ∧ (∃ M', W.heap[J]? = some (.cells M' 26 (0, 0)) ∧ M'.size = n * 7) ∧ W.heap.size = w1.heap.size ∧ (∀ b o, ¬ b = J → W.cell? ⟨b, o, none⟩ = w1.cell? ⟨b, o, none⟩) ∧ (∀ o, o < k * 7 → W.cell? ⟨J, o, none⟩ = w1.cell? ⟨J, o, none⟩) ∧
      At W J (k * 7) (.agg #[y0, y1, y2, y3, y4, y5, y6]) ∧ ∀ (B : Nat) (a : World), B ≤ J → Below B a w1 → Below B a W := by
  have h0 := heap_setCell (o := k * 7) (v := y0) hJ
  have h1 := heap_setCell (o := k * 7 + 1) (v := y1) h0
  have h2 := heap_setCell (o := k * 7 + 2) (v := y2) h1
  have h3 := heap_setCell (o := k * 7 + 3) (v := y3) h2
  have h4 := heap_setCell (o := k * 7 + 4) (v := y4) h3
  have h5 := heap_setCell (o := k * 7 + 5) (v := y5) h4
  have h6 := heap_setCell (o := k * 7 + 6) (v := y6) h5
  have hW := h6
  clear h0 h1 h2 h3 h4 h5 h6
  refine ⟨_, rfl, ⟨_, hW, by simp [hs]⟩, by simp [World.setCell], ?_, ?_, ?_, ?_⟩
  · intro b o hb
    refine World.cell?_of_block ?_
    rw [Below.heap_setCell _ _ _ _ (by exact hb), Below.heap_setCell _ _ _ _ (by exact hb), Below.heap_setCell _ _ _ _ (by exact hb), Below.heap_setCell _ _ _ _ (by exact hb), Below.heap_setCell _ _ _ _ (by exact hb), Below.heap_setCell _ _ _ _ (by exact hb), Below.heap_setCell _ _ _ _ (by exact hb)]
  · intro o ho
    have e : ∀ W : World, ∀ C, W.heap[J]? = some (.cells C 26 (0, 0)) → W.cell? ⟨J, o, none⟩ = C[o]? := fun W C h => by simp [World.cell?, h]
    rw [e _ _ hW, e _ _ hJ]
    rw [Array.getElem?_setIfInBounds_ne (by omega), Array.getElem?_setIfInBounds_ne (by omega), Array.getElem?_setIfInBounds_ne (by omega), Array.getElem?_setIfInBounds_ne (by omega), Array.getElem?_setIfInBounds_ne (by omega), Array.getElem?_setIfInBounds_ne (by omega), Array.getElem?_setIfInBounds_ne (by omega)]
  · have e : ∀ W : World, ∀ C o, W.heap[J]? = some (.cells C 26 (0, 0)) → W.cell? ⟨J, o, none⟩ = C[o]? := fun W C o h => by simp [World.cell?, h]
    have hl : ∀ j, j < 7 → k * 7 + j < M.size := fun j hj => by omega
    have l0 := hl 0 (by omega)
    have l1 := hl 1 (by omega)
    have l2 := hl 2 (by omega)
    have l3 := hl 3 (by omega)
    have l4 := hl 4 (by omega)
    have l5 := hl 5 (by omega)
    have l6 := hl 6 (by omega)
    simp only [Nat.add_zero] at l0
    refine ⟨y0, y1, y2, y3, y4, y5, y6, rfl, ?_, ?_, ?_, ?_, ?_, ?_, ?_⟩ <;> rw [e _ _ _ hW] <;> simp [l0, l1, l2, l3, l4, l5, l6]
  · intro B a hB h
    exact ((((((h.setCell hB _).setCell hB _).setCell hB _).setCell hB _).setCell hB _).setCell hB _).setCell hB _
theorem fin7 {wr : World} {R lo : Nat} {y0 y1 y2 y3 y4 y5 y6 : Value} {d : Nat} {T : FT d} {u : Value} (hlt : R < lo) (h : IsF lo wr T u) : IsF lo (((((((wr.setCell ⟨R, 0, none⟩ y0).setCell ⟨R, 1, none⟩ y1).setCell ⟨R, 2, none⟩ y2).setCell ⟨R, 3, none⟩ y3).setCell ⟨R, 4, none⟩ y4).setCell ⟨R, 5, none⟩ y5).setCell ⟨R, 6, none⟩ y6) T u := by
  refine IsF.keep (w := wr) (by simp [World.setCell]) (fun b o h1 h2 => ?_) T u h
  have hb : b ≠ R := by omega
  refine World.cell?_of_block ?_
  rw [Below.heap_setCell _ _ _ _ (by exact hb), Below.heap_setCell _ _ _ _ (by exact hb), Below.heap_setCell _ _ _ _ (by exact hb), Below.heap_setCell _ _ _ _ (by exact hb), Below.heap_setCell _ _ _ _ (by exact hb), Below.heap_setCell _ _ _ _ (by exact hb), Below.heap_setCell _ _ _ _ (by exact hb)]
theorem set7 {w wr : World} {R B : Nat} {y0 y1 y2 y3 y4 y5 y6 : Value} (hB : B ≤ R) (h : Below B w wr) : Below B w (((((((wr.setCell ⟨R, 0, none⟩ y0).setCell ⟨R, 1, none⟩ y1).setCell ⟨R, 2, none⟩ y2).setCell ⟨R, 3, none⟩ y3).setCell ⟨R, 4, none⟩ y4).setCell ⟨R, 5, none⟩ y5).setCell ⟨R, 6, none⟩ y6) :=
  ((((((h.setCell hB _).setCell hB _).setCell hB _).setCell hB _).setCell hB _).setCell hB _).setCell hB _
theorem IsF.shape {lo : Nat} {w : World} {d : Nat} {T : FT d} {u : Value} (h : IsF lo w T u) : ∃ t a xr nr cr xg ng cg xv nv cv rows jx n jc, u = .agg #[.string t, .string a, .slice xr nr cr, .slice xg ng cg, .slice xv nv cv, .int .i64 rows, .slice jx n jc] := by
  induction d, T using FT.ind with
  | nought d => simp only [IsF_nought] at h
  | mk d t a r g v rows nl n kids ih =>
    simp only [IsF_mk] at h
    obtain ⟨xr, cr, xg, cg, xv, cv, jx, jc, rfl, _⟩ := h
    exact ⟨_, _, _, _, _, _, _, _, _, _, _, _, _, _, _, rfl⟩
theorem At.open {w : World} {b o : Nat} {u0 u1 u2 u3 u4 u5 u6 : Value} (h : At w b o (.agg #[u0, u1, u2, u3, u4, u5, u6])) :
    w.cell? ⟨b, o, none⟩ = some u0 ∧ w.cell? ⟨b, o + 1, none⟩ = some u1 ∧ w.cell? ⟨b, o + 2, none⟩ = some u2 ∧ w.cell? ⟨b, o + 3, none⟩ = some u3 ∧ w.cell? ⟨b, o + 4, none⟩ = some u4 ∧ w.cell? ⟨b, o + 5, none⟩ = some u5 ∧ w.cell? ⟨b, o + 6, none⟩ = some u6 := by
  obtain ⟨v0, v1, v2, v3, v4, v5, v6, he, h⟩ := h
  simp at he
  obtain ⟨rfl, rfl, rfl, rfl, rfl, rfl, rfl⟩ := he
  exact h
theorem keep_one {wr w1 : World} {b o : Nat} {v : Value} (h : wr.cell? ⟨b, o, none⟩ = some v) (hlt : b < wr.heap.size) (hb : Below wr.drew.heap.size wr.drew w1) : w1.cell? ⟨b, o, none⟩ = some v := by
  rw [hb.cell (p := ⟨b, o, none⟩) hlt]; exact h
theorem keep_nine {wr w1 : World} {b1 o1 b2 o2 b3 q0 q1 q2 q3 q4 q5 q6 : Nat} {v0 v1 v2 v3 v4 v5 v6 v7 v8 : Value} (h0 : wr.cell? ⟨b1, o1, none⟩ = some v0) (h1 : wr.cell? ⟨b2, o2, none⟩ = some v1) (h2 : wr.cell? ⟨b3, q0, none⟩ = some v2) (h3 : wr.cell? ⟨b3, q1, none⟩ = some v3) (h4 : wr.cell? ⟨b3, q2, none⟩ = some v4) (h5 : wr.cell? ⟨b3, q3, none⟩ = some v5) (h6 : wr.cell? ⟨b3, q4, none⟩ = some v6) (h7 : wr.cell? ⟨b3, q5, none⟩ = some v7) (h8 : wr.cell? ⟨b3, q6, none⟩ = some v8) (l1 : b1 < wr.heap.size) (l2 : b2 < wr.heap.size) (l3 : b3 < wr.heap.size) (hb : Below wr.drew.heap.size wr.drew w1) : w1.cell? ⟨b1, o1, none⟩ = some v0 ∧ w1.cell? ⟨b2, o2, none⟩ = some v1 ∧ w1.cell? ⟨b3, q0, none⟩ = some v2 ∧ w1.cell? ⟨b3, q1, none⟩ = some v3 ∧ w1.cell? ⟨b3, q2, none⟩ = some v4 ∧ w1.cell? ⟨b3, q3, none⟩ = some v5 ∧ w1.cell? ⟨b3, q4, none⟩ = some v6 ∧ w1.cell? ⟨b3, q5, none⟩ = some v7 ∧ w1.cell? ⟨b3, q6, none⟩ = some v8 :=
  ⟨keep_one h0 l1 hb, keep_one h1 l2 hb, keep_one h2 l3 hb, keep_one h3 l3 hb, keep_one h4 l3 hb, keep_one h5 l3 hb, keep_one h6 l3 hb, keep_one h7 l3 hb, keep_one h8 l3 hb⟩
theorem keep_set {w1 : World} {J b1 o1 b2 o2 b3 q0 q1 q2 q3 q4 q5 q6 p0 p1 p2 p3 p4 p5 p6 : Nat} {v0 v1 v2 v3 v4 v5 v6 v7 v8 y0 y1 y2 y3 y4 y5 y6 : Value} (n1 : ¬ b1 = J) (n2 : ¬ b2 = J) (n3 : ¬ b3 = J) (h : w1.cell? ⟨b1, o1, none⟩ = some v0 ∧ w1.cell? ⟨b2, o2, none⟩ = some v1 ∧ w1.cell? ⟨b3, q0, none⟩ = some v2 ∧ w1.cell? ⟨b3, q1, none⟩ = some v3 ∧ w1.cell? ⟨b3, q2, none⟩ = some v4 ∧ w1.cell? ⟨b3, q3, none⟩ = some v5 ∧ w1.cell? ⟨b3, q4, none⟩ = some v6 ∧ w1.cell? ⟨b3, q5, none⟩ = some v7 ∧ w1.cell? ⟨b3, q6, none⟩ = some v8) : (((((((w1.setCell ⟨J, p0, none⟩ y0).setCell ⟨J, p1, none⟩ y1).setCell ⟨J, p2, none⟩ y2).setCell ⟨J, p3, none⟩ y3).setCell ⟨J, p4, none⟩ y4).setCell ⟨J, p5, none⟩ y5).setCell ⟨J, p6, none⟩ y6).cell? ⟨b1, o1, none⟩ = some v0 ∧ (((((((w1.setCell ⟨J, p0, none⟩ y0).setCell ⟨J, p1, none⟩ y1).setCell ⟨J, p2, none⟩ y2).setCell ⟨J, p3, none⟩ y3).setCell ⟨J, p4, none⟩ y4).setCell ⟨J, p5, none⟩ y5).setCell ⟨J, p6, none⟩ y6).cell? ⟨b2, o2, none⟩ = some v1 ∧ (((((((w1.setCell ⟨J, p0, none⟩ y0).setCell ⟨J, p1, none⟩ y1).setCell ⟨J, p2, none⟩ y2).setCell ⟨J, p3, none⟩ y3).setCell ⟨J, p4, none⟩ y4).setCell ⟨J, p5, none⟩ y5).setCell ⟨J, p6, none⟩ y6).cell? ⟨b3, q0, none⟩ = some v2 ∧ (((((((w1.setCell ⟨J, p0, none⟩ y0).setCell ⟨J, p1, none⟩ y1).setCell ⟨J, p2, none⟩ y2).setCell ⟨J, p3, none⟩ y3).setCell ⟨J, p4, none⟩ y4).setCell ⟨J, p5, none⟩ y5).setCell ⟨J, p6, none⟩ y6).cell? ⟨b3, q1, none⟩ = some v3 ∧ (((((((w1.setCell ⟨J, p0, none⟩ y0).setCell ⟨J, p1, none⟩ y1).setCell ⟨J, p2, none⟩ y2).setCell ⟨J, p3, none⟩ y3).setCell ⟨J, p4, none⟩ y4).setCell ⟨J, p5, none⟩ y5).setCell ⟨J, p6, none⟩ y6).cell? ⟨b3, q2, none⟩ = some v4 ∧ (((((((w1.setCell ⟨J, p0, none⟩ y0).setCell ⟨J, p1, none⟩ y1).setCell ⟨J, p2, none⟩ y2).setCell ⟨J, p3, none⟩ y3).setCell ⟨J, p4, none⟩ y4).setCell ⟨J, p5, none⟩ y5).setCell ⟨J, p6, none⟩ y6).cell? ⟨b3, q3, none⟩ = some v5 ∧ (((((((w1.setCell ⟨J, p0, none⟩ y0).setCell ⟨J, p1, none⟩ y1).setCell ⟨J, p2, none⟩ y2).setCell ⟨J, p3, none⟩ y3).setCell ⟨J, p4, none⟩ y4).setCell ⟨J, p5, none⟩ y5).setCell ⟨J, p6, none⟩ y6).cell? ⟨b3, q4, none⟩ = some v6 ∧ (((((((w1.setCell ⟨J, p0, none⟩ y0).setCell ⟨J, p1, none⟩ y1).setCell ⟨J, p2, none⟩ y2).setCell ⟨J, p3, none⟩ y3).setCell ⟨J, p4, none⟩ y4).setCell ⟨J, p5, none⟩ y5).setCell ⟨J, p6, none⟩ y6).cell? ⟨b3, q5, none⟩ = some v7 ∧ (((((((w1.setCell ⟨J, p0, none⟩ y0).setCell ⟨J, p1, none⟩ y1).setCell ⟨J, p2, none⟩ y2).setCell ⟨J, p3, none⟩ y3).setCell ⟨J, p4, none⟩ y4).setCell ⟨J, p5, none⟩ y5).setCell ⟨J, p6, none⟩ y6).cell? ⟨b3, q6, none⟩ = some v8 := by
  have e : ∀ (b o : Nat), ¬ b = J → (((((((w1.setCell ⟨J, p0, none⟩ y0).setCell ⟨J, p1, none⟩ y1).setCell ⟨J, p2, none⟩ y2).setCell ⟨J, p3, none⟩ y3).setCell ⟨J, p4, none⟩ y4).setCell ⟨J, p5, none⟩ y5).setCell ⟨J, p6, none⟩ y6).cell? ⟨b, o, none⟩ = w1.cell? ⟨b, o, none⟩ := by
    intro b o hb
    refine World.cell?_of_block ?_
    rw [Below.heap_setCell _ _ _ _ (by exact hb), Below.heap_setCell _ _ _ _ (by exact hb), Below.heap_setCell _ _ _ _ (by exact hb), Below.heap_setCell _ _ _ _ (by exact hb), Below.heap_setCell _ _ _ _ (by exact hb), Below.heap_setCell _ _ _ _ (by exact hb), Below.heap_setCell _ _ _ _ (by exact hb)]
  rw [e _ _ n1, e _ _ n2, e b3 q0 n3, e b3 q1 n3, e b3 q2 n3, e b3 q3 n3, e b3 q4 n3, e b3 q5 n3, e b3 q6 n3]
  exact h
theorem on_block {wr w1 : World} {J : Nat} {x : Obj} (hb : Below wr.drew.heap.size wr.drew w1) (h : wr.heap[J]? = some x) (hlt : J < wr.heap.size) : w1.heap[J]? = some x := by
  rw [hb.block J hlt]; exact h
theorem cellsJ {w : World} {J n k : Nat} {M : Array Value} {t : TypeId} (h : w.heap[J]? = some (.cells M t (0, 0))) (hs : M.size = n * 7) (hk : k < n) :
    ∃ m0 m1 m2 m3 m4 m5 m6, w.cell? ⟨J, k * 7, none⟩ = some m0 ∧ w.cell? ⟨J, k * 7 + 1, none⟩ = some m1 ∧ w.cell? ⟨J, k * 7 + 2, none⟩ = some m2 ∧ w.cell? ⟨J, k * 7 + 3, none⟩ = some m3 ∧ w.cell? ⟨J, k * 7 + 4, none⟩ = some m4 ∧ w.cell? ⟨J, k * 7 + 5, none⟩ = some m5 ∧ w.cell? ⟨J, k * 7 + 6, none⟩ = some m6 := by
  have e : ∀ j, j < 7 → w.cell? ⟨J, k * 7 + j, none⟩ = some (M[k * 7 + j]?.getD default) := by
    intro j hj
    have hl : k * 7 + j < M.size := by omega
    simp [World.cell?, h, hl]
  exact ⟨_, _, _, _, _, _, _, e 0 (by omega), e 1 (by omega), e 2 (by omega), e 3 (by omega), e 4 (by omega), e 5 (by omega), e 6 (by omega)⟩

set_option maxHeartbeats 1600000 in
theorem copy_any : ∀ {d : Nat} (T : FT d) (lo : Nat) (u : Value) (w : World), IsF lo w T u → T.names ≤ 1048576 → T.nodes ≤ 65536 →
    Calls Yba.prog 4 #[u] w fun e w' => ∃ u', e = .returned u' ∧ IsF w.heap.size w' T u' ∧ Below w.heap.size w w' := by
  intro d T
  induction d, T using FT.ind with
  | nought d => intro lo u w hF; simp only [IsF_nought] at hF
  | mk d t a r g v rows nl n kids ih =>
    intro lo u w hF hnm hnd
    have hn := FT.n_nodes (t := t) (a := a) (r := r) (g := g) (v := v) (rows := rows) (nl := nl) (n := n) (kids := kids)
    have hrn : r.n ≤ 1048576 ∧ g.n ≤ 1048576 ∧ v.n ≤ 1048576 := by simp only [FT.names_mk] at hnm; omega
    have hkm : ∀ i, i < n → (kids i).names ≤ 1048576 := fun i hi => Nat.le_trans (FT.kid_names hi) hnm
    have hkd : ∀ i, i < n → (kids i).nodes ≤ 65536 := fun i hi => Nat.le_trans (FT.kid_nodes hi) hnd
    have hn' : n ≤ 65536 := by omega
    simp only [IsF_mk] at hF
    obtain ⟨xr, cr, xg, cg, xv, cv, jx, jc, rfl, s1, s2, s3, hbd, kk⟩ := hF
    have HM : Hid (∀ i, i < n → (kids i).names ≤ 1048576) := hkm
    have HD : Hid (∀ i, i < n → (kids i).nodes ≤ 65536) := hkd
    have HIH : Hid (∀ i (lo : Nat) (u : Value) (w : World), IsF lo w (kids i) u → (kids i).names ≤ 1048576 → (kids i).nodes ≤ 65536 →
      Calls Yba.prog 4 #[u] w fun e w' => ∃ u', e = .returned u' ∧ IsF w.heap.size w' (kids i) u' ∧ Below w.heap.size w w') := ih
    have S1 : Hid (IsS lo w xr cr r) := s1
    have S2 : Hid (IsS lo w xg cg g) := s2
    have S3 : Hid (IsS lo w xv cv v) := s3
    obtain ⟨hr1, hr2, hr3⟩ := hrn
    have HB : Hid (r.n ≤ 8796093022208 ∧ g.n ≤ 8796093022208 ∧ v.n ≤ 8796093022208 ∧ n ≤ 8796093022208) := hbd
    have hnn := fun (w : World) => run_neq_slice_nil_any (P := Yba.prog) w 24 26 jx n jc 0 0 Yba.underlying24
    clear ih hkm hkd hnm hnd hn s1 s2 s3 hbd
    go_enter Yba.func4, Yba.ntmps4
    go_wp2_with fail
    have hcp := CP.new w #[.string t, .string a, .slice xr r.n cr, .slice xg g.n cg, .slice xv v.n cv, .int .i64 rows, .slice jx n jc] #[.string ⟨#[]⟩, .string ⟨#[]⟩, .slice none 0 0, .slice none 0 0, .slice none 0 0, .int .i64 0, .slice none 0 0] #[.string t, .string a, .slice xr r.n cr, .slice xg g.n cg, .slice xv v.n cv, .int .i64 rows, .slice jx n jc]
    refine (clone_any xr cr r _ (S1.out.below hcp.below) hr1).mono ?_
    rintro e w1 ⟨x1, d1, rfl, t1, hb1⟩
    have hcp1 := hcp.on hb1
    have hlo1 := hcp.size
    generalize World.alloc _ _ = W0 at *
    have T1 : Hid (IsS W0.heap.size w1 x1 d1 r) := t1
    have CP1 : Hid (CP w w1 _ _ _) := hcp1
    obtain ⟨a0, a1, a2, a3, a4, a5, a6⟩ := cells7 hcp1.a
    obtain ⟨c0, c1, c2, c3, c4, c5, c6⟩ := cells7 hcp1.c
    have fz := frozen7 hcp1.c
    have hsz1 := hcp1.size
    clear hcp hcp1 hb1 t1
    go_wp2_with fail
    have hcs1 := CP1.out.setC 2 (.slice x1 r.n d1)
    have T1' := T1.out.set (b := w.heap.size + 2) hlo1 2 (.slice x1 r.n d1)
    clear a0 a1 a2 a3 a4 a5 a6 c0 c1 c2 c3 c4 c5 c6 fz hsz1 T1 CP1
    show Calls Yba.prog 7 #[Value.slice xg g.n cg] (w1.setCell ⟨w.heap.size + 2, 2, none⟩ (.slice x1 r.n d1)) _
    generalize w1.setCell ⟨w.heap.size + 2, 2, none⟩ (.slice x1 r.n d1) = W1 at *
    refine (clone_any xg cg g _ (S2.out.below hcs1.below) hr2).mono ?_
    rintro e w2 ⟨x2, d2, rfl, t2, hb2⟩
    have hcp2 := hcs1.on hb2
    have hlo2 := hcs1.size
    have T1'' := T1'.below hb2
    have T1 : Hid (IsS W0.heap.size w2 x1 d1 r) := T1''
    have T2 : Hid (IsS W1.heap.size w2 x2 d2 g) := t2
    have CP2 : Hid (CP w w2 _ _ _) := hcp2
    obtain ⟨a0, a1, a2, a3, a4, a5, a6⟩ := cells7 hcp2.a
    obtain ⟨c0, c1, c2, c3, c4, c5, c6⟩ := cells7 hcp2.c
    have fz := frozen7 hcp2.c
    have hsz1 := hcp2.size
    clear hcs1 hcp2 hb2 t2 T1' T1''
    go_wp2_with fail
    have hcs2 := CP2.out.setC 3 (.slice x2 g.n d2)
    have T1' := T1.out.set (b := w.heap.size + 2) hlo1 3 (.slice x2 g.n d2)
    have T2' := T2.out.set (b := w.heap.size + 2) hlo2 3 (.slice x2 g.n d2)
    clear a0 a1 a2 a3 a4 a5 a6 c0 c1 c2 c3 c4 c5 c6 fz hsz1 T1 T2 CP2
    show Calls Yba.prog 7 #[Value.slice xv v.n cv] (w2.setCell ⟨w.heap.size + 2, 3, none⟩ (.slice x2 g.n d2)) _
    generalize w2.setCell ⟨w.heap.size + 2, 3, none⟩ (.slice x2 g.n d2) = W2 at *
    refine (clone_any xv cv v _ (S3.out.below hcs2.below) hr3).mono ?_
    rintro e w3 ⟨x3, d3, rfl, t3, hb3⟩
    have hcp3 := hcs2.on hb3
    have hlo3 := hcs2.size
    have T1'' := (T1'.below hb3).mono (lo' := w.heap.size + 3) hlo1
    have T2'' := (T2'.below hb3).mono (lo' := w.heap.size + 3) hlo2
    have T3'' := t3.mono (lo' := w.heap.size + 3) hlo3
    have T1 : Hid (IsS (w.heap.size + 3) w3 x1 d1 r) := T1''
    have T2 : Hid (IsS (w.heap.size + 3) w3 x2 d2 g) := T2''
    have T3 : Hid (IsS (w.heap.size + 3) w3 x3 d3 v) := T3''
    have CP3 : Hid (CP w w3 _ _ _) := hcp3
    obtain ⟨a0, a1, a2, a3, a4, a5, a6⟩ := cells7 hcp3.a
    obtain ⟨b0, b1, b2, b3, b4, b5, b6⟩ := cells7 hcp3.b
    obtain ⟨c0, c1, c2, c3, c4, c5, c6⟩ := cells7 hcp3.c
    have fz := frozen7 hcp3.c
    have fzb := frozen7 hcp3.b
    have hsz1 := hcp3.size
    clear hcs2 hcp3 hb3 t3 T1' T2' T1'' T2'' T3'' hlo1 hlo2 hlo3
    clear W1 W2
    rcases kk with ⟨rfl, rfl, rfl, rfl⟩ | kk
    · go_wp2_with fail
      refine bodyPost_ret (v := .agg #[.string t, .string a, .slice x1 r.n d1, .slice x2 g.n d2, .slice x3 v.n d3, .int .i64 rows, .slice none 0 0]) (by simp [results, Yba.results4, go_sem, b0, b1, b2, b3, b4, b5, b6]) rfl ⟨_, rfl, ?_, set7 (by omega) (CP3.out.setC 4 (.slice x3 v.n d3)).below⟩
      refine IsF.mono (lo := w.heap.size + 3) (by omega) _ _ (fin7 (by omega) ?_)
      simp only [IsF_mk]
      exact ⟨_, _, _, _, _, _, _, _, rfl, T1.out.set (b := w.heap.size + 2) (by omega) _ _, T2.out.set (b := w.heap.size + 2) (by omega) _ _, T3.out.set (b := w.heap.size + 2) (by omega) _ _, HB.out, .inl ⟨by trivial, by trivial, by trivial, by trivial⟩⟩
    · have hmk := run_make_n (P := Yba.prog) 24 26 _ _ _ Yba.underlying24 Yba.info26 n (by omega) (by omega)
      obtain ⟨M, hM⟩ : ∃ M, M = madeCells (Value.agg #[.string ⟨#[]⟩, .string ⟨#[]⟩, .slice none 0 0, .slice none 0 0, .slice none 0 0, .int .i64 0, .slice none 0 0]).cells (n * 7) := ⟨_, rfl⟩
      rw [← hM] at hmk
      have hMs : M.size = n * 7 := by rw [hM, size_madeCells]
      clear hM
      obtain ⟨ad, rfl, rfl⟩ : ∃ ad, jx = some ad ∧ nl = false := by
        rcases kk with ⟨ad, h, _, h2⟩ | ⟨b, o, h, _, h2, _⟩
        · exact ⟨ad, h, h2⟩
        · exact ⟨_, h, h2⟩
      have HK : Hid ((∃ ad_1, some ad = some ad_1 ∧ n = 0 ∧ false = false) ∨ ∃ b o, some ad = some ⟨b, o, none⟩ ∧ 0 < n ∧ false = false ∧ lo ≤ b ∧ b < w.heap.size ∧ ∀ i, i < n → ∃ u, At w b (o + i * 7) u ∧ IsF lo w (kids i) u) := kk
      clear kk
      have hsz0 : w.heap.size < w3.heap.size := by omega
      have hsz2 : w.heap.size + 1 + 1 < w3.heap.size := by omega
      go_wp2_with fail
      have hW := (CP3.out.setC 4 (.slice x3 v.n d3)).setC 6 (.slice (some ⟨w3.heap.size, 0, none⟩) n n)
      have T1' := (T1.out.set (b := w.heap.size + 2) (by omega) 4 (.slice x3 v.n d3)).set (b := w.heap.size + 2) (by omega) 6 (.slice (some ⟨w3.heap.size, 0, none⟩) n n)
      have T2' := (T2.out.set (b := w.heap.size + 2) (by omega) 4 (.slice x3 v.n d3)).set (b := w.heap.size + 2) (by omega) 6 (.slice (some ⟨w3.heap.size, 0, none⟩) n n)
      have T3' := (T3.out.set (b := w.heap.size + 2) (by omega) 4 (.slice x3 v.n d3)).set (b := w.heap.size + 2) (by omega) 6 (.slice (some ⟨w3.heap.size, 0, none⟩) n n)
      have hJ : ((w3.setCell ⟨w.heap.size + 2, 4, none⟩ (.slice x3 v.n d3)).setCell ⟨w.heap.size + 2, 6, none⟩ (.slice (some ⟨w3.heap.size, 0, none⟩) n n)).heap.size = w3.heap.size := by simp [World.setCell]
      clear a0 a1 a2 a3 a4 a5 a6 b0 b1 b2 b3 b4 b5 b6 c0 c1 c2 c3 c4 c5 c6 fz fzb hsz1 T1 T2 T3 CP3 hmk hsz0 hsz2
      show Code.wp Yba.prog _ _ _ (((w3.setCell ⟨w.heap.size + 2, 4, none⟩ (.slice x3 v.n d3)).setCell ⟨w.heap.size + 2, 6, none⟩ (.slice (some ⟨w3.heap.size, 0, none⟩) n n)).alloc (Obj.cells M 26))
      generalize ((w3.setCell ⟨w.heap.size + 2, 4, none⟩ (.slice x3 v.n d3)).setCell ⟨w.heap.size + 2, 6, none⟩ (.slice (some ⟨w3.heap.size, 0, none⟩) n n)) = W3 at *
      rw [← hJ] at hW ⊢
      clear hJ
      have hal : Below W3.heap.size W3 (W3.alloc (Obj.cells M 26)) := (Below.refl _ _).alloc (Nat.le_refl _) _
      have hW4 := hW.on hal
      have HCP : Hid (CP w (W3.alloc (Obj.cells M 26)) _ _ _) := hW4
      have hnew := heap_alloc_new W3 (Obj.cells M 26)
      have HNEW : Hid ((W3.alloc (Obj.cells M 26)).heap[W3.heap.size]? = some (Obj.cells M 26)) := hnew
      have T1 : Hid (IsS (w.heap.size + 3) W3 x1 d1 r) := T1'
      have T2 : Hid (IsS (w.heap.size + 3) W3 x2 d2 g) := T2'
      have T3 : Hid (IsS (w.heap.size + 3) W3 x3 d3 v) := T3'
      have hsJ := hW.size
      clear hW hW4 hnew T1' T2' T3' hal
      go_loopw [29] (fun i wr => ∃ (k : Nat) (M' : Array Value), k ≤ n ∧ i = .int .i64 k ∧ Below W3.heap.size (W3.alloc (Obj.cells M 26)) wr ∧ wr.heap[W3.heap.size]? = some (.cells M' 26 (0, 0)) ∧ M'.size = n * 7 ∧ ∀ i, i < k → ∃ u, At wr W3.heap.size (i * 7) u ∧ IsF (W3.heap.size + 1) wr (kids i) u) (fun i _ => n - (intOf i).toNat)
      case atStart => exact ⟨0, M, Nat.zero_le _, rfl, Below.refl _ _, HNEW.out, hMs, fun i hi => by omega⟩
      case round =>
        obtain ⟨k, M', hk, rfl, hbel, hMJ, hMs', hdone⟩ := hrel
        have HMJ : Hid (wr.heap[W3.heap.size]? = some (.cells M' 26 (0, 0))) := hMJ
        have HDN : Hid (∀ i, i < k → ∃ u, At wr W3.heap.size (i * 7) u ∧ IsF (W3.heap.size + 1) wr (kids i) u) := hdone
        have hszr := hbel.size
        rw [World.size_alloc] at hszr
        have hbw : Below w.heap.size w wr := HCP.out.below.trans (hbel.mono (by omega))
        have HA := HCP.out.a
        have HC := HCP.out.c
        rw [← hbel.block _ (by omega)] at HA HC
        obtain ⟨a0, a1, a2, a3, a4, a5, a6⟩ := cells7 HA
        obtain ⟨c0, c1, c2, c3, c4, c5, c6⟩ := cells7 HC
        clear HA HC hMJ hdone
        by_cases hkn : k < n
        · rcases HK.out with ⟨_, _, h, _⟩ | ⟨jb, jo, he, hpos, _, hlo, hlt, hx⟩
          · omega
          simp at he
          subst he
          obtain ⟨u, hAu, hFu⟩ := hx k hkn
          have hAw := hAu.same (fun o => hbw.cell (p := ⟨jb, o, none⟩) hlt)
          have hFw := hFu.below hbw
          have HF : Hid (IsF lo wr.drew (kids k) u) := IsF.keep (w := wr) (w' := wr.drew) (Nat.le_refl _) (fun _ _ _ _ => by simp) _ _ hFw
          obtain ⟨pt, pa, pxr, pnr, pcr, pxg, png, pcg, pxv, pnv, pcv, prows, pjx, pn, pjc, rfl⟩ := hFu.shape
          obtain ⟨e0, e1, e2, e3, e4, e5, e6⟩ := hAw.open
          have hkn' : (k : Int) < (n : Int) := by omega
          have hltr : jb < wr.heap.size := by omega
          clear hx hAu hFu hAw hFw
          go_wp2_with fail
          have n1 : ¬ w.heap.size + 2 = W3.heap.size := by omega
          have n2 : ¬ w.heap.size = W3.heap.size := by omega
          have n3 : ¬ jb = W3.heap.size := by omega
          have l1 : w.heap.size + 2 < wr.heap.size := by omega
          have l2 : w.heap.size < wr.heap.size := by omega
          have hS0 : wr.drew.cell? ⟨w.heap.size + 2, 6, none⟩ = some (.slice (some ⟨W3.heap.size, 0, none⟩) n n) ∧ wr.drew.cell? ⟨w.heap.size, 6, none⟩ = some (.slice (some ⟨jb, jo, none⟩) n jc) ∧ wr.drew.cell? ⟨jb, jo + k * 7, none⟩ = some (Value.string pt) ∧ wr.drew.cell? ⟨jb, jo + k * 7 + 1, none⟩ = some (Value.string pa) ∧ wr.drew.cell? ⟨jb, jo + k * 7 + 2, none⟩ = some (Value.slice pxr pnr pcr) ∧ wr.drew.cell? ⟨jb, jo + k * 7 + 3, none⟩ = some (Value.slice pxg png pcg) ∧ wr.drew.cell? ⟨jb, jo + k * 7 + 4, none⟩ = some (Value.slice pxv pnv pcv) ∧ wr.drew.cell? ⟨jb, jo + k * 7 + 5, none⟩ = some (Value.int .i64 prows) ∧ wr.drew.cell? ⟨jb, jo + k * 7 + 6, none⟩ = some (Value.slice pjx pn pjc) := ⟨c6, a6, e0, e1, e2, e3, e4, e5, e6⟩
          clear a0 a1 a2 a3 a4 a5 c0 c1 c2 c3 c4 c5
          go_region_held3 (fun w' => w'.cell? ⟨w.heap.size + 2, 6, none⟩ = some (.slice (some ⟨W3.heap.size, 0, none⟩) n n) ∧ w'.cell? ⟨w.heap.size, 6, none⟩ = some (.slice (some ⟨jb, jo, none⟩) n jc) ∧ w'.cell? ⟨jb, jo + k * 7, none⟩ = some (Value.string pt) ∧ w'.cell? ⟨jb, jo + k * 7 + 1, none⟩ = some (Value.string pa) ∧ w'.cell? ⟨jb, jo + k * 7 + 2, none⟩ = some (Value.slice pxr pnr pcr) ∧ w'.cell? ⟨jb, jo + k * 7 + 3, none⟩ = some (Value.slice pxg png pcg) ∧ w'.cell? ⟨jb, jo + k * 7 + 4, none⟩ = some (Value.slice pxv pnv pcv) ∧ w'.cell? ⟨jb, jo + k * 7 + 5, none⟩ = some (Value.int .i64 prows) ∧ w'.cell? ⟨jb, jo + k * 7 + 6, none⟩ = some (Value.slice pjx pn pjc))
            (first | with_reducible exact hS0 | with_reducible exact keep_nine c6 a6 e0 e1 e2 e3 e4 e5 e6 l1 l2 hltr (by assumption) | with_reducible exact keep_set n1 n2 n3 (by assumption))
            ((go_at_call 4; refine (HIH.out k lo _ _ (by exact HF.out) (HM.out k hkn) (HD.out k hkn)).mono ?_; rintro e w1 ⟨u', rfl, hF', hb'⟩; obtain ⟨qt, qa, qxr, qnr, qcr, qxg, qng, qcg, qxv, qnv, qcv, qrows, qjx, qn, qjc, rfl⟩ := hF'.shape; obtain ⟨m0, m1, m2, m3, m4, m5, m6, g0, g1, g2, g3, g4, g5, g6⟩ := cellsJ (on_block hb' HMJ.out (by omega)) hMs' hkn; have fz := frozen7 (on_block hb' HMJ.out (by omega))))
          obtain ⟨W5, hW5, ⟨M5, hM5, hM5s⟩, hs5, ho5, hi5, hA5, hb5⟩ := put7 (y0 := .string qt) (y1 := .string qa) (y2 := .slice qxr qnr qcr) (y3 := .slice qxg qng qcg) (y4 := .slice qxv qnv qcv) (y5 := .int .i64 qrows) (y6 := .slice qjx qn qjc) (on_block hb' HMJ.out (by omega)) hMs' hkn
          rw [← hW5]
          have HF5 : Hid (IsF wr.heap.size w1 (kids k) (.agg #[.string qt, .string qa, .slice qxr qnr qcr, .slice qxg qng qcg, .slice qxv qnv qcv, .int .i64 qrows, .slice qjx qn qjc])) := hF'
          have HB5 : Hid (Below wr.heap.size wr.drew w1) := hb'
          have HM5 : Hid (W5.heap[W3.heap.size]? = some (.cells M5 26 (0, 0))) := hM5
          have HO5 : Hid (∀ b o, ¬ b = W3.heap.size → W5.cell? ⟨b, o, none⟩ = w1.cell? ⟨b, o, none⟩) := ho5
          have HI5 : Hid (∀ o, o < k * 7 → W5.cell? ⟨W3.heap.size, o, none⟩ = w1.cell? ⟨W3.heap.size, o, none⟩) := hi5
          have HA5 : Hid (At W5 W3.heap.size (k * 7) _) := hA5
          have HBB : Hid (∀ (B : Nat) (a : World), B ≤ W3.heap.size → Below B a w1 → Below B a W5) := hb5
          clear hW5 hM5 ho5 hi5 hA5 hb5 hF' hb' g0 g1 g2 g3 g4 g5 g6 hS0 e0 e1 e2 e3 e4 e5 e6 fz
          go_wp2_with fail
          go_roundw
          case rel =>
            have hbw1 : Below W3.heap.size (W3.alloc (Obj.cells M 26)) w1 := hbel.drew.trans (HB5.out.mono (by omega))
            refine ⟨k + 1, M5, by omega, by go_num, HBB.out _ _ (Nat.le_refl _) hbw1, HM5.out, hM5s, fun i hi => ?_⟩
            by_cases hik : i = k
            · subst hik
              refine ⟨_, HA5.out, ?_⟩
              exact IsF.mono (by omega) _ _ (IsF.keep (w := w1) (by omega) (fun b o h1 h2 => HO5.out b o (by omega)) _ _ HF5.out)
            · obtain ⟨u, hA, hF⟩ := HDN.out i (by omega)
              have hF1 : IsF (W3.heap.size + 1) w1 (kids i) u := IsF.keep (w := wr) HB5.out.size (fun b o h1 h2 => by rw [HB5.out.cell (p := ⟨b, o, none⟩) h2]; rfl) _ _ hF
              refine ⟨u, ?_, IsF.keep (w := w1) (by omega) (fun b o h1 h2 => HO5.out b o (by omega)) _ _ hF1⟩
              obtain ⟨v0, v1, v2, v3, v4, v5, v6, rfl, q0, q1, q2, q3, q4, q5, q6⟩ := hA
              have hc : ∀ o, o < k * 7 → W5.cell? ⟨W3.heap.size, o, none⟩ = wr.cell? ⟨W3.heap.size, o, none⟩ := fun o ho => by
                rw [HI5.out o ho, HB5.out.cell (p := ⟨W3.heap.size, o, none⟩) (by show W3.heap.size < _; omega)]; rfl
              exact ⟨v0, v1, v2, v3, v4, v5, v6, rfl, by rw [hc _ (by omega)]; exact q0, by rw [hc _ (by omega)]; exact q1, by rw [hc _ (by omega)]; exact q2, by rw [hc _ (by omega)]; exact q3, by rw [hc _ (by omega)]; exact q4, by rw [hc _ (by omega)]; exact q5, by rw [hc _ (by omega)]; exact q6⟩
          case measure => simp [intOf]; omega
        · have hkn2 : k = n := by omega
          subst hkn2
          have HBX := HCP.out.b
          rw [← hbel.block _ (by omega)] at HBX
          obtain ⟨b0, b1, b2, b3, b4, b5, b6⟩ := cells7 HBX
          have fzb := frozen7 HBX
          have hsz0 : w.heap.size + 1 < wr.heap.size := by omega
          clear HBX
          go_wp2_with fail
          refine bodyPost_ret (v := .agg #[.string t, .string a, .slice x1 r.n d1, .slice x2 g.n d2, .slice x3 v.n d3, .int .i64 rows, .slice (some ⟨W3.heap.size, 0, none⟩) k k]) (by simp [results, Yba.results4, go_sem, b0, b1, b2, b3, b4, b5, b6]) rfl ⟨_, rfl, ?_, set7 (by omega) hbw⟩
          have hbW : Below W3.heap.size W3 wr := ((Below.refl _ _).alloc (Nat.le_refl _) _).trans hbel
          refine IsF.mono (lo := w.heap.size + 3) (by omega) _ _ (fin7 (by omega) ?_)
          simp only [IsF_mk]
          refine ⟨_, _, _, _, _, _, _, _, rfl, T1.out.below hbW, T2.out.below hbW, T3.out.below hbW, HB.out, ?_⟩
          by_cases h0 : k = 0
          · exact .inr (.inl ⟨_, rfl, h0, by trivial⟩)
          · refine .inr (.inr ⟨_, _, rfl, by omega, by trivial, by omega, by omega, fun i hi => ?_⟩)
            obtain ⟨u, hA, hF⟩ := HDN.out i hi
            rw [Nat.zero_add]
            exact ⟨u, hA, IsF.mono (by omega) _ _ hF⟩
end Go.Proofs.Ybulkdxpk
