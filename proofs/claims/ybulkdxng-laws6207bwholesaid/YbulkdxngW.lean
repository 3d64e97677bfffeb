import Derived.Test.YbulkdxngV
import Derived.BigRegion
namespace Go.Proofs.Ybulkdxng.D
open Go.RowKit
set_option linter.unusedVariables false

/-- the blocks while the network is built -/
structure BB where
  iv : Nat
  fv : Nat
  F : Nat
  bf : Nat
  bt : Nat
  bl : Nat
  bb : Nat
  bi : Nat
  icap : Nat
structure BB.Dis (b : BB) : Prop where
  t1 : b.iv ≠ b.bt
  t2 : b.fv ≠ b.bt
  t3 : b.F ≠ b.bt
  t4 : b.bf ≠ b.bt
  l1 : b.iv ≠ b.bl
  l2 : b.fv ≠ b.bl
  l3 : b.F ≠ b.bl
  l4 : b.bf ≠ b.bl
  b1 : b.iv ≠ b.bb
  b2 : b.fv ≠ b.bb
  b3 : b.F ≠ b.bb
  b4 : b.bf ≠ b.bb
  i1 : b.iv ≠ b.bi
  i2 : b.fv ≠ b.bi
  i3 : b.F ≠ b.bi
  i4 : b.bf ≠ b.bi
  tl : b.bt ≠ b.bl
  tb : b.bt ≠ b.bb
  lb : b.bl ≠ b.bb
  it : b.bi ≠ b.bt
  il : b.bi ≠ b.bl
  ib : b.bi ≠ b.bb
structure BW (b : BB) (V E : Nat) (first dst back fill : Nat → Nat) (left : Nat → Int) (w : World) : Prop where
  iv : w.heap[b.iv]? = some (.cells #[.slice (some ⟨b.bi, 0, none⟩) V b.icap] 26 (0, 0))
  fv : w.heap[b.fv]? = some (.cells #[.pointer (some ⟨b.F, 0, none⟩)] 27 (0, 0))
  f : w.heap[b.F]? = some (.cells #[.slice (some ⟨b.bf, 0, none⟩) (V + 1) (V + 1), .slice (some ⟨b.bt, 0, none⟩) E E, .slice (some ⟨b.bl, 0, none⟩) E E, .slice (some ⟨b.bb, 0, none⟩) E E, .slice none 0 0, .slice none 0 0, .slice none 0 0] 31 (0, 0))
  first : w.heap[b.bf]? = some (.cells (rowN (V + 1) first) 3 (0, 0))
  dst : w.heap[b.bt]? = some (.cells (rowN E dst) 3 (0, 0))
  left : w.heap[b.bl]? = some (.cells (row E left) 2 (0, 0))
  back : w.heap[b.bb]? = some (.cells (rowN E back) 3 (0, 0))
  fill : ∃ cur, w.heap[b.bi]? = some (.cells cur 3 (0, 0)) ∧ ∀ u, u < V → cur[u]? = some (.int .i64 (fill u : Int))
section
variable {b : BB} {V E : Nat} {first dst back fill : Nat → Nat} {left : Nat → Int} {w : World}
theorem BW.cells (h : BW b V E first dst back fill left w) : w.cell? ⟨b.iv, 0, none⟩ = some (.slice (some ⟨b.bi, 0, none⟩) V b.icap) ∧ w.cell? ⟨b.fv, 0, none⟩ = some (.pointer (some ⟨b.F, 0, none⟩)) ∧ w.cell? ⟨b.F, 0, none⟩ = some (.slice (some ⟨b.bf, 0, none⟩) (V + 1) (V + 1)) ∧ w.cell? ⟨b.F, 1, none⟩ = some (.slice (some ⟨b.bt, 0, none⟩) E E) ∧ w.cell? ⟨b.F, 2, none⟩ = some (.slice (some ⟨b.bl, 0, none⟩) E E) ∧ w.cell? ⟨b.F, 3, none⟩ = some (.slice (some ⟨b.bb, 0, none⟩) E E) := by
  simp [World.cell?, h.iv, h.fv, h.f]
theorem BW.atFill (h : BW b V E first dst back fill left w) {u : Nat} (hu : u < V) : w.cell? ⟨b.bi, u, none⟩ = some (.int .i64 (fill u : Int)) := by
  obtain ⟨cur, h1, h2⟩ := h.fill
  simp [World.cell?, h1, h2 u hu]
theorem BW.frFill (h : BW b V E first dst back fill left w) (o : Nat) : w.frozen? ⟨b.bi, o, none⟩ = false := by
  obtain ⟨cur, h1, _⟩ := h.fill
  exact frozen_row h1 o
theorem BW.drew (h : BW b V E first dst back fill left w) (k : Nat) : BW b V E first dst back fill left (w.drewN k) := ⟨h.iv, h.fv, h.f, h.first, h.dst, h.left, h.back, h.fill⟩
theorem BW.drew1 (h : BW b V E first dst back fill left w) : BW b V E first dst back fill left w.drew := ⟨h.iv, h.fv, h.f, h.first, h.dst, h.left, h.back, h.fill⟩
theorem BW.setFill (h : BW b V E first dst back fill left w) (hd : b.Dis) {u : Nat} (hu : u < V) (z : Nat) : BW b V E first dst back (updN fill u (z + 1)) left (w.setCell ⟨b.bi, u, none⟩ (.int .i64 ((z : Int) + 1))) := by
  obtain ⟨cur, h1, h2⟩ := h.fill
  refine ⟨by rw [Below.heap_setCell _ _ _ _ hd.i1]; exact h.iv, by rw [Below.heap_setCell _ _ _ _ hd.i2]; exact h.fv, by rw [Below.heap_setCell _ _ _ _ hd.i3]; exact h.f, by rw [Below.heap_setCell _ _ _ _ hd.i4]; exact h.first, by rw [Below.heap_setCell _ _ _ _ (Ne.symm hd.it)]; exact h.dst, by rw [Below.heap_setCell _ _ _ _ (Ne.symm hd.il)]; exact h.left, by rw [Below.heap_setCell _ _ _ _ (Ne.symm hd.ib)]; exact h.back, _, heap_setCell h1, fun x hx => ?_⟩
  have hc : u < cur.size := (Array.getElem?_eq_some_iff.1 (h2 u hu)).1
  by_cases e : x = u
  · subst e; rw [updN_same]; simp [hc]
  · rw [updN_ne _ _ e, Array.getElem?_setIfInBounds_ne (fun h => e h.symm)]; exact h2 x hx
theorem BW.setDst (h : BW b V E first dst back fill left w) (hd : b.Dis) {e : Nat} (he : e < E) (z : Nat) : BW b V E first (updN dst e z) back fill left (w.setCell ⟨b.bt, e, none⟩ (.int .i64 (z : Int))) := by
  obtain ⟨cur, h1, h2⟩ := h.fill
  exact ⟨by rw [Below.heap_setCell _ _ _ _ hd.t1]; exact h.iv, by rw [Below.heap_setCell _ _ _ _ hd.t2]; exact h.fv, by rw [Below.heap_setCell _ _ _ _ hd.t3]; exact h.f, by rw [Below.heap_setCell _ _ _ _ hd.t4]; exact h.first, by rw [heap_setCell h.dst, set_rowN _ _ he], by rw [Below.heap_setCell _ _ _ _ (Ne.symm hd.tl)]; exact h.left, by rw [Below.heap_setCell _ _ _ _ (Ne.symm hd.tb)]; exact h.back, cur, by rw [Below.heap_setCell _ _ _ _ hd.it]; exact h1, h2⟩
theorem BW.setLeft (h : BW b V E first dst back fill left w) (hd : b.Dis) {e : Nat} (he : e < E) (z : Int) : BW b V E first dst back fill (upd left e z) (w.setCell ⟨b.bl, e, none⟩ (.int .i64 z)) := by
  obtain ⟨cur, h1, h2⟩ := h.fill
  exact ⟨by rw [Below.heap_setCell _ _ _ _ hd.l1]; exact h.iv, by rw [Below.heap_setCell _ _ _ _ hd.l2]; exact h.fv, by rw [Below.heap_setCell _ _ _ _ hd.l3]; exact h.f, by rw [Below.heap_setCell _ _ _ _ hd.l4]; exact h.first, by rw [Below.heap_setCell _ _ _ _ hd.tl]; exact h.dst, by rw [heap_setCell h.left, set_row _ _ he], by rw [Below.heap_setCell _ _ _ _ (Ne.symm hd.lb)]; exact h.back, cur, by rw [Below.heap_setCell _ _ _ _ hd.il]; exact h1, h2⟩
theorem BW.setBack (h : BW b V E first dst back fill left w) (hd : b.Dis) {e : Nat} (he : e < E) (z : Nat) : BW b V E first dst (updN back e z) fill left (w.setCell ⟨b.bb, e, none⟩ (.int .i64 (z : Int))) := by
  obtain ⟨cur, h1, h2⟩ := h.fill
  exact ⟨by rw [Below.heap_setCell _ _ _ _ hd.b1]; exact h.iv, by rw [Below.heap_setCell _ _ _ _ hd.b2]; exact h.fv, by rw [Below.heap_setCell _ _ _ _ hd.b3]; exact h.f, by rw [Below.heap_setCell _ _ _ _ hd.b4]; exact h.first, by rw [Below.heap_setCell _ _ _ _ hd.tb]; exact h.dst, by rw [Below.heap_setCell _ _ _ _ hd.lb]; exact h.left, by rw [heap_setCell h.back, set_rowN _ _ he], cur, by rw [Below.heap_setCell _ _ _ _ hd.ib]; exact h1, h2⟩
end
/-- what add may change -/
structure SameB (b : BB) (w w' : World) : Prop where
  os : w'.os = w.os
  tape : w'.tape = w.tape
  output : w'.output = w.output
  size : w.heap.size = w'.heap.size
  block : ∀ k, k ≠ b.bt → k ≠ b.bl → k ≠ b.bb → k ≠ b.bi → w'.heap[k]? = w.heap[k]?
section
variable {b : BB} {w w' w'' : World}
theorem SameB.refl : SameB b w w := ⟨rfl, rfl, rfl, rfl, fun _ _ _ _ _ => rfl⟩
theorem SameB.trans (h : SameB b w w') (k : SameB b w' w'') : SameB b w w'' := ⟨k.os.trans h.os, k.tape.trans h.tape, k.output.trans h.output, h.size.trans k.size, fun i h1 h2 h3 h4 => (k.block i h1 h2 h3 h4).trans (h.block i h1 h2 h3 h4)⟩
theorem SameB.drew (h : SameB b w w') (n : Nat) : SameB b w (w'.drewN n) := h.trans ⟨rfl, rfl, rfl, rfl, fun _ _ _ _ _ => rfl⟩
theorem SameB.drew1 (h : SameB b w w') : SameB b w w'.drew := h.trans ⟨rfl, rfl, rfl, rfl, fun _ _ _ _ _ => rfl⟩
theorem SameB.set (h : SameB b w w') {x : Nat} (hx : x = b.bt ∨ x = b.bl ∨ x = b.bb ∨ x = b.bi) (o : Nat) (v : Value) : SameB b w (w'.setCell ⟨x, o, none⟩ v) :=
  h.trans ⟨rfl, rfl, rfl, by simp [World.setCell], fun k h1 h2 h3 h4 => Below.heap_setCell _ _ _ _ (by rcases hx with h | h | h | h <;> (rw [h]; assumption))⟩
end

set_option maxRecDepth 100000 in
set_option maxHeartbeats 1600000 in
theorem add_any {b : BB} {V E : Nat} {first dst back fill : Nat → Nat} {left : Nat → Int} (hd : b.Dis) (hV : V ≤ 1000) (hE : E ≤ 1000000) (u v e r : Nat) (wd : Int) (w : World) (h : BW b V E first dst back fill left w)
    (hu : u < V) (hv : v < V) (huv : u ≠ v) (he : fill u = e) (hr : fill v = r) (heE : e < E) (hrE : r < E) :
    Calls Yba.prog 14 #[.int .i64 (u : Int), .int .i64 (v : Int), .int .i64 wd, .pointer (some ⟨b.iv, 0, none⟩), .pointer (some ⟨b.fv, 0, none⟩)] w fun x w' => x = .returned (.tuple #[]) ∧
      BW b V E first (updN (updN dst e v) r u) (updN (updN back e r) r e) (updN (updN fill u (e + 1)) v (r + 1)) (upd (upd left e wd) r 0) w' ∧ SameB b w w' := by
  obtain ⟨g0, g1, g2, g3, g4, g5⟩ := h.cells
  have a1 := h.atFill hu
  have a2 := h.atFill hv
  have z1 := h.frFill
  rw [he] at a1
  rw [hr] at a2
  have hu' : (u : Int) < (V : Int) := by omega
  have hv' : (v : Int) < (V : Int) := by omega
  have heE' : (e : Int) < (E : Int) := by omega
  have hrE' : (r : Int) < (E : Int) := by omega
  have HW : Hid (BW b V E first dst back fill left w) := h
  have HD : Hid b.Dis := hd
  have n1 : ¬ b.iv = b.bi := hd.i1
  have n2 : ¬ b.fv = b.bi := hd.i2
  have n3 : ¬ b.F = b.bi := hd.i3
  have huv' : ¬ v = u := Ne.symm huv
  clear h he hd
  go_enter Yba.func14, Yba.ntmps14
  go_wp2_with fail
  go_quiet (fail)
  go_wp2_with fail
  have h2 := ((HW.out.drew nq).setFill HD.out hu e).setFill HD.out hv r
  have hs2 : SameB b w (((w.drewN nq).setCell ⟨b.bi, u, none⟩ (.int .i64 ((e : Int) + 1))).setCell ⟨b.bi, v, none⟩ (.int .i64 ((r : Int) + 1))) := ((SameB.refl.drew nq).set (by simp) _ _).set (by simp) _ _
  clear g0 g1 g2 g3 g4 g5 a1 a2 z1
  generalize (((w.drewN nq).setCell ⟨b.bi, u, none⟩ (.int .i64 ((e : Int) + 1))).setCell ⟨b.bi, v, none⟩ (.int .i64 ((r : Int) + 1))) = W2 at *
  obtain ⟨g0, g1, g2, g3, g4, g5⟩ := h2.cells
  have c1 := cell_rowN h2.dst heE
  have c2 := cell_row h2.left heE
  have c3 := cell_rowN h2.back heE
  have z1 := frozen_row h2.dst e
  have z2 := frozen_row h2.left e
  have z3 := frozen_row h2.back e
  have m1 : ¬ b.fv = b.bt := HD.out.t2
  have m2 : ¬ b.fv = b.bl := HD.out.l2
  have m3 : ¬ b.fv = b.bb := HD.out.b2
  have m4 : ¬ b.F = b.bt := HD.out.t3
  have m5 : ¬ b.F = b.bl := HD.out.l3
  have m6 : ¬ b.F = b.bb := HD.out.b3
  have m7 : ¬ b.bt = b.bl := HD.out.tl
  have m8 : ¬ b.bt = b.bb := HD.out.tb
  have m9 : ¬ b.bl = b.bb := HD.out.lb
  have H2 : Hid (BW b V E first dst back (updN (updN fill u (e + 1)) v (r + 1)) left W2) := h2
  have HS2 : Hid (SameB b w W2) := hs2
  clear h2 hs2 n1 n2 n3 HW
  go_region
  have h3 := (((H2.out.setDst HD.out heE v).setLeft HD.out heE wd).setBack HD.out heE r).drew1
  have hs3 : SameB b w ((((W2.setCell ⟨b.bt, e, none⟩ (.int .i64 (v : Int))).setCell ⟨b.bl, e, none⟩ (.int .i64 wd)).setCell ⟨b.bb, e, none⟩ (.int .i64 (r : Int))).drew) := (((HS2.out.set (by simp) _ _).set (by simp) _ _).set (by simp) _ _).drew1
  clear g0 g1 g2 g3 g4 g5 c1 c2 c3 z1 z2 z3
  generalize (((W2.setCell ⟨b.bt, e, none⟩ (.int .i64 (v : Int))).setCell ⟨b.bl, e, none⟩ (.int .i64 wd)).setCell ⟨b.bb, e, none⟩ (.int .i64 (r : Int))).drew = W3 at *
  obtain ⟨g0, g1, g2, g3, g4, g5⟩ := h3.cells
  have c1 := cell_rowN h3.dst hrE
  have c2 := cell_row h3.left hrE
  have c3 := cell_rowN h3.back hrE
  have z1 := frozen_row h3.dst r
  have z2 := frozen_row h3.left r
  have z3 := frozen_row h3.back r
  have H3 : Hid (BW b V E first (updN dst e v) (updN back e r) (updN (updN fill u (e + 1)) v (r + 1)) (upd left e wd) W3) := h3
  have HS3 : Hid (SameB b w W3) := hs3
  clear h3 hs3 H2 HS2
  go_wp2_with fail
  go_region
  have h4 := (((H3.out.setDst HD.out hrE u).setLeft HD.out hrE 0).setBack HD.out hrE e).drew1
  have hs4 : SameB b w ((((W3.setCell ⟨b.bt, r, none⟩ (.int .i64 (u : Int))).setCell ⟨b.bl, r, none⟩ (.int .i64 0)).setCell ⟨b.bb, r, none⟩ (.int .i64 (e : Int))).drew) := (((HS3.out.set (by simp) _ _).set (by simp) _ _).set (by simp) _ _).drew1
  clear g0 g1 g2 g3 g4 g5 c1 c2 c3 z1 z2 z3
  generalize (((W3.setCell ⟨b.bt, r, none⟩ (.int .i64 (u : Int))).setCell ⟨b.bl, r, none⟩ (.int .i64 0)).setCell ⟨b.bb, r, none⟩ (.int .i64 (e : Int))).drew = W4 at *
  have H4 : Hid (BW b V E first (updN (updN dst e v) r u) (updN (updN back e r) r e) (updN (updN fill u (e + 1)) v (r + 1)) (upd (upd left e wd) r 0) W4) := h4
  have HS4 : Hid (SameB b w W4) := hs4
  clear h4 hs4
  go_wp2_with fail
  go_end0
  exact ⟨rfl, H4.out, HS4.out⟩
end Go.Proofs.Ybulkdxng.D
