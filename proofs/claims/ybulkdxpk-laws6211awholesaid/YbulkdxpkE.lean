import Derived.Test.YbulkdxpkD
import Derived.Laws.AppendOwnNone
namespace Go.Proofs.Ybulkdxpk
open Go.RowKit
set_option linter.unusedVariables false

structure Ent where
  b : Nat
  o : Nat
  d : Nat
  T : FT d
def pt (e : Ent) : Value := .pointer (some ⟨e.b, e.o, none⟩)
def sN : List Ent → Nat
  | [] => 0
  | e :: l => e.T.names + sN l
def sC : List Ent → Nat
  | [] => 0
  | e :: l => e.T.nodes + sC l
theorem sN_append (a b : List Ent) : sN (a ++ b) = sN a + sN b := by
  induction a with
  | nil => simp [sN]
  | cons e a ih => simp only [List.cons_append, sN, ih]; omega
theorem sC_append (a b : List Ent) : sC (a ++ b) = sC a + sC b := by
  induction a with
  | nil => simp [sC]
  | cons e a ih => simp only [List.cons_append, sC, ih]; omega
theorem sC_ge (a : List Ent) : a.length ≤ sC a := by
  induction a with
  | nil => exact Nat.zero_le _
  | cons e a ih => have := e.T.nodes_pos; simp only [List.length_cons, sC]; omega
theorem sN_range (kid : Nat → Ent) : ∀ n, sN ((List.range n).map kid) = sumTo n fun i => (kid i).T.names
  | 0 => rfl
  | n + 1 => by rw [List.range_succ, List.map_append, sN_append, sN_range kid n]; simp [sN, sumTo]
theorem sC_range (kid : Nat → Ent) : ∀ n, sC ((List.range n).map kid) = sumTo n fun i => (kid i).T.nodes
  | 0 => rfl
  | n + 1 => by rw [List.range_succ, List.map_append, sC_append, sC_range kid n]; simp [sC, sumTo]
def Good (W : World) (L : List Ent) : Prop := ∀ e, e ∈ L → ∃ u, At W e.b e.o u ∧ IsF 0 W e.T u
def lenOf : Value → Nat
  | .slice _ n _ => n
  | _ => 0
theorem Yba.info27 : (Yba.prog.info? 27).map (fun i => (i.zero, i.size, i.bytes)) = some (some (.pointer none), 1, 8) := by kernel_rfl
theorem below_drewN {B : Nat} {w w' : World} (h : Below B w w') (k : Nat) : Below B w (w'.drewN k) := h.trans ⟨rfl, rfl, rfl, Nat.le_refl _, fun _ _ => rfl⟩
theorem ownsRow_drewN {w : World} {base : Nat} {e : TypeId} {size : Nat} {v : Value} {n : Nat} {xs : List Value} (h : w.ownsRow base e size v n xs) (k : Nat) : (w.drewN k).ownsRow base e size v n xs := by
  unfold World.ownsRow at *
  simpa using h
theorem ownsRow_pop1 {w : World} {base : Nat} {e : TypeId} {g cap m : Nat} {xs : List Value} {x : Value} (h : w.ownsRow base e 1 (.slice (some ⟨g, 0, none⟩) (m + 1) cap) (m + 1) (xs ++ [x])) :
    w.cell? ⟨g, m, none⟩ = some x ∧ w.ownsRow base e 1 (.slice (some ⟨g, 0, none⟩) m cap) m xs ∧ g < w.heap.size ∧ m + 1 ≤ cap := by
  have hl : xs.length = m := by have := h.1; simp at this; omega
  have hc := h.cells (g := g) rfl m x (by rw [List.getElem?_append_right (by omega), hl]; simp)
  rw [Addr.add_lit, Nat.zero_add] at hc
  refine ⟨hc, ⟨by omega, ?_⟩, (h.lt g rfl).2, ?_⟩
  · rcases h.2 with ⟨h, _⟩ | ⟨g', cap', cur, he, h1, h2, h3, h4, h5, h6⟩
    · cases h
    · simp at he
      obtain ⟨rfl, rfl⟩ := he
      refine .inr ⟨_, _, cur, rfl, h1, h2, by omega, h4, h5, ?_⟩
      have := congrArg (List.take m) h6
      rw [List.take_take] at this
      simp only [Nat.mul_one] at this ⊢
      rw [show min m (m + 1) = m by omega] at this
      rw [this, List.take_append_of_le_length (by omega), List.take_of_length_le (by omega)]
  · rcases h.2 with ⟨h, _⟩ | ⟨g', cap', cur, he, h1, h2, h3, h4, h5, h6⟩
    · cases h
    · simp at he
      obtain ⟨rfl, rfl⟩ := he
      exact h3

theorem new_one (w : World) (a : Value) (t : TypeId) : ∀ (j : Nat) (u : Value), [a][j]? = some u → (w.alloc (.cells #[a] t)).cell? ((⟨w.heap.size, 0, none⟩ : Addr).add j) = some u := by
  intro j u hj
  rw [Addr.add_lit, Nat.zero_add, World.cell?_alloc_new]
  match j, hj with
  | 0, hj => simpa using hj
set_option maxRecDepth 100000 in
set_option maxHeartbeats 1600000 in
theorem law_any {d0 : Nat} (T0 : FT d0) (u : Value) (w : World) (hF : IsF 0 w T0 u) :
    Calls Yba.prog 3 #[u] w fun e w' => e = .returned (.bool true) ∧ Below w.heap.size w w' := by
  obtain ⟨pt0, pa, pxr, pnr, pcr, pxg, png, pcg, pxv, pnv, pcv, prows, pjx, pn, pjc, rfl⟩ := hF.shape
  obtain ⟨i0, hi, hz0, hz1, hz2⟩ := info_parts Yba.info27
  go_enter Yba.func3, Yba.ntmps3
  go_wp2_with fail
  obtain ⟨u, hu⟩ : ∃ u, u = Value.agg #[Value.string pt0, Value.string pa, Value.slice pxr pnr pcr, Value.slice pxg png pcg, Value.slice pxv pnv pcv, Value.int IntKind.i64 prows, Value.slice pjx pn pjc] := ⟨_, rfl⟩
  have hbW0 : Below w.heap.size w (w.alloc (Obj.cells #[Value.string pt0, Value.string pa, Value.slice pxr pnr pcr, Value.slice pxg png pcg, Value.slice pxv pnv pcv, Value.int IntKind.i64 prows, Value.slice pjx pn pjc] 26)) := (Below.refl _ _).alloc (Nat.le_refl _) _
  have hF0 := hF.below hbW0
  have hA0 : At (w.alloc (Obj.cells #[Value.string pt0, Value.string pa, Value.slice pxr pnr pcr, Value.slice pxg png pcg, Value.slice pxv pnv pcv, Value.int IntKind.i64 prows, Value.slice pjx pn pjc] 26)) w.heap.size 0 (Value.agg #[Value.string pt0, Value.string pa, Value.slice pxr pnr pcr, Value.slice pxg png pcg, Value.slice pxv pnv pcv, Value.int IntKind.i64 prows, Value.slice pjx pn pjc]) := by
    have h := cells7 (heap_alloc_new w (Obj.cells #[Value.string pt0, Value.string pa, Value.slice pxr pnr pcr, Value.slice pxg png pcg, Value.slice pxv pnv pcv, Value.int IntKind.i64 prows, Value.slice pjx pn pjc] 26))
    exact ⟨_, _, _, _, _, _, _, rfl, h⟩
  have hsz0 : (w.alloc (Obj.cells #[Value.string pt0, Value.string pa, Value.slice pxr pnr pcr, Value.slice pxg png pcg, Value.slice pxv pnv pcv, Value.int IntKind.i64 prows, Value.slice pjx pn pjc] 26)).heap.size = w.heap.size + 1 := by simp
  generalize w.alloc (Obj.cells #[Value.string pt0, Value.string pa, Value.slice pxr pnr pcr, Value.slice pxg png pcg, Value.slice pxv pnv pcv, Value.int IntKind.i64 prows, Value.slice pjx pn pjc] 26) = W0 at *
  have hrow : (W0.alloc (Obj.cells #[Value.pointer (some ⟨w.heap.size, 0, none⟩)] 27)).ownsRow (w.heap.size + 1) 27 1 (.slice (some ⟨w.heap.size + 1, 0, none⟩) 1 1) 1 [Value.pointer (some ⟨w.heap.size, 0, none⟩)] := by
    refine ⟨rfl, .inr ⟨w.heap.size + 1, 1, #[Value.pointer (some ⟨w.heap.size, 0, none⟩)], rfl, Nat.le_refl _, ?_, Nat.le_refl _, by unfold maxLen; omega, rfl, rfl⟩⟩
    rw [← hsz0, heap_alloc_new]
  have hb0 : Below (w.heap.size + 1) W0 (W0.alloc (Obj.cells #[Value.pointer (some ⟨w.heap.size, 0, none⟩)] 27)) := (Below.refl _ _).alloc (by omega) _
  rw [← hu] at hF0 hA0
  have HF0 : Hid (IsF 0 W0 T0 u) := hF0
  have HA0 : Hid (At W0 w.heap.size 0 u) := hA0
  have HROW : Hid ((W0.alloc (Obj.cells #[Value.pointer (some ⟨w.heap.size, 0, none⟩)] 27)).ownsRow (w.heap.size + 1) 27 1 (.slice (some ⟨w.heap.size + 1, 0, none⟩) 1 1) 1 [Value.pointer (some ⟨w.heap.size, 0, none⟩)]) := hrow
  have HU := hu
  clear hF hF0 hA0 hrow hu
  go_loopw [3, 4, 5] (fun st nd nm wr => ∃ (L : List Ent) (g cap c m : Nat), st = .slice (some ⟨g, 0, none⟩) L.length cap ∧ nd = .int .i64 c ∧ nm = .int .i64 m ∧ wr.ownsRow (w.heap.size + 1) 27 1 (.slice (some ⟨g, 0, none⟩) L.length cap) L.length (L.map pt) ∧ Below (w.heap.size + 1) W0 wr ∧ Good W0 L ∧
      m + sN L = T0.names ∧ c + sC L = T0.nodes + L.length ∧ m ≤ 1048576 ∧ c ≤ 65536 ∧ L.length ≤ c) (fun st nd _ _ => T0.nodes + lenOf st - (intOf nd).toNat)
  case atStart =>
    refine ⟨[⟨w.heap.size, 0, _, T0⟩], w.heap.size + 1, 1, 1, 0, rfl, rfl, rfl, HROW.out, hb0, ?_, by simp [sN], by simp [sC]; omega, by omega, by omega, by simp⟩
    intro e he
    simp at he
    subst he
    exact ⟨u, HA0.out, HF0.out⟩
  case round =>
    obtain ⟨L, g, cap, c, m, rfl, rfl, rfl, hown, hbel, hgood, hsn, hsc, hm, hc, hLc⟩ := hrel
    rcases List.eq_nil_or_concat L with rfl | ⟨rest, top, hLL⟩
    · have HM : Hid (m = T0.names) := show m = T0.names by simpa [sN] using hsn
      have HC : Hid (c = T0.nodes) := show c = T0.nodes by simpa [sC] using hsc
      have HFB : Hid (T0.fb + 136 = 16 * m + 136 * c) := show _ = _ by rw [HM.out, HC.out]; exact T0.fb_eq
      have hpos : 1 ≤ c := by rw [HC.out]; exact T0.nodes_pos
      subst HU
      have hszr := hbel.size
      rw [hsz0] at hszr
      obtain ⟨q0, q1, q2, q3, q4, q5, q6⟩ := HA0.out.open
      simp only [Nat.zero_add] at q1 q2 q3 q4 q5 q6
      rw [← hbel.cell (p := ⟨w.heap.size, _, none⟩) (by show w.heap.size < w.heap.size + 1; omega)] at q0 q1 q2 q3 q4 q5 q6
      have hFw : IsF 0 wr T0 (Value.agg #[Value.string pt0, Value.string pa, Value.slice pxr pnr pcr, Value.slice pxg png pcg, Value.slice pxv pnv pcv, Value.int IntKind.i64 prows, Value.slice pjx pn pjc]) := HF0.out.below (by rw [hsz0]; exact hbel)
      have HFW : Hid (IsF 0 wr T0 (Value.agg #[Value.string pt0, Value.string pa, Value.slice pxr pnr pcr, Value.slice pxg png pcg, Value.slice pxv pnv pcv, Value.int IntKind.i64 prows, Value.slice pjx pn pjc])) := hFw
      have HAW : Hid (At wr w.heap.size 0 (Value.agg #[Value.string pt0, Value.string pa, Value.slice pxr pnr pcr, Value.slice pxg png pcg, Value.slice pxv pnv pcv, Value.int IntKind.i64 prows, Value.slice pjx pn pjc])) := HA0.out.same (fun o => hbel.cell (p := ⟨w.heap.size, o, none⟩) (by show w.heap.size < w.heap.size + 1; omega))
      have hnm : T0.names ≤ 1048576 := by rw [← HM.out]; exact hm
      have hnd : T0.nodes ≤ 65536 := by rw [← HC.out]; exact hc
      have HNM : Hid (T0.names ≤ 1048576) := hnm
      have HND : Hid (T0.nodes ≤ 65536) := hnd
      have hwr : Below w.heap.size w wr := hbW0.trans (hbel.mono (by omega))
      clear hown hgood hsn hsc hFw hbel hbW0 hb0 HA0 HF0 HROW hnm hnd
      go_wp2_with fail
      refine (copy_any T0 0 _ wr HFW.out HNM.out HND.out).mono ?_
      rintro e w1 ⟨u', rfl, hF1, hb1⟩
      obtain ⟨qt, qa, qxr, qnr, qcr, qxg, qng, qcg, qxv, qnv, qcv, qrows, qjx, qn, qjc, rfl⟩ := hF1.shape
      have HF1 : Hid (IsF wr.heap.size w1 T0 _) := hF1
      have HB1 : Hid (Below wr.heap.size wr w1) := hb1
      clear hF1 hb1
      go_wp2_with fail
      have hal : Below w1.heap.size w1 (w1.alloc (Obj.cells #[Value.string qt, Value.string qa, Value.slice qxr qnr qcr, Value.slice qxg qng qcg, Value.slice qxv qnv qcv, Value.int IntKind.i64 qrows, Value.slice qjx qn qjc] 26)) := (Below.refl _ _).alloc (Nat.le_refl _) _
      have hA2 : At (w1.alloc (Obj.cells #[Value.string qt, Value.string qa, Value.slice qxr qnr qcr, Value.slice qxg qng qcg, Value.slice qxv qnv qcv, Value.int IntKind.i64 qrows, Value.slice qjx qn qjc] 26)) w1.heap.size 0 (Value.agg #[Value.string qt, Value.string qa, Value.slice qxr qnr qcr, Value.slice qxg qng qcg, Value.slice qxv qnv qcv, Value.int IntKind.i64 qrows, Value.slice qjx qn qjc]) := by
        have h := cells7 (heap_alloc_new w1 (Obj.cells #[Value.string qt, Value.string qa, Value.slice qxr qnr qcr, Value.slice qxg qng qcg, Value.slice qxv qnv qcv, Value.int IntKind.i64 qrows, Value.slice qjx qn qjc] 26))
        exact ⟨_, _, _, _, _, _, _, rfl, h⟩
      have hF2 := HF1.out.below hal
      have hwb : Below wr.heap.size wr (w1.alloc (Obj.cells #[Value.string qt, Value.string qa, Value.slice qxr qnr qcr, Value.slice qxg qng qcg, Value.slice qxv qnv qcv, Value.int IntKind.i64 qrows, Value.slice qjx qn qjc] 26)) := HB1.out.trans (hal.mono HB1.out.size)
      have hA0 := HAW.out.same (fun o => hwb.cell (p := ⟨w.heap.size, o, none⟩) (by show w.heap.size < _; omega))
      have hF0 := HFW.out.below hwb
      generalize w1.alloc (Obj.cells #[Value.string qt, Value.string qa, Value.slice qxr qnr qcr, Value.slice qxg qng qcg, Value.slice qxv qnv qcv, Value.int IntKind.i64 qrows, Value.slice qjx qn qjc] 26) = w2 at *
      refine (fb_any T0 0 w.heap.size 0 _ w2 hA0 hF0 HNM.out HND.out).mono ?_
      rintro e w3 ⟨rfl, k1, rfl⟩
      have HE := eq_any T0 0 w.heap.size 0 _ wr.heap.size w1.heap.size 0 _ (w2.drewN k1) (hA0.drew k1) (hF0.drew k1) (hA2.drew k1) (hF2.drew k1) HNM.out HND.out
      have HE' : Hid (Calls Yba.prog 6 #[.pointer (some ⟨w.heap.size, 0, none⟩), .pointer (some ⟨w1.heap.size, 0, none⟩)] (w2.drewN k1) fun e w' => e = .returned (.bool true) ∧ ∃ k, w' = (w2.drewN k1).drewN k) := HE
      have hend : Below w.heap.size w w2 := hwr.trans (hwb.mono (by omega))
      have hfbe : ((T0.fb : Nat) : Int) = 16 * (m : Int) + 136 * ((c : Int) - 1) := by have := HFB.out; omega
      rw [hfbe]
      clear HE hfbe hA0 hF0 hA2 hF2 hal hwb q0 q1 q2 q3 q4 q5 q6
      go_wp2_with fail
      refine HE'.out.mono ?_
      rintro e w3 ⟨rfl, k2, rfl⟩
      go_wp2_with fail
      go_ret
      exact ⟨rfl, below_drewN hend _⟩
    · rw [List.concat_eq_append] at hLL
      subst hLL
      obtain ⟨tb, tq, td, TT⟩ := top
      rcases FT.split td TT with hT | ⟨d', tt, ta, r, gg, v, rows, nl, n, kids, hT⟩
      · subst hT
        obtain ⟨uu, hAu, hFu⟩ := hgood ⟨tb, tq, td, .nought⟩ (by simp)
        simp only [IsF_nought] at hFu
      cases hT
      obtain ⟨uu, hAu, hFu⟩ := hgood ⟨tb, tq, _, .mk tt ta r gg v rows nl n kids⟩ (by simp)
      obtain ⟨xr, cr, xg, cg, xv, cv, jx, jc, q0, q1, q2, q3, q4, q5, q6, s1, s2, s3, ⟨hb1, hb2, hb3, hb4⟩, kk⟩ := open_at hAu hFu
      have htb := hAu.lt
      rw [hsz0] at htb
      rw [← hbel.cell (p := ⟨tb, _, none⟩) htb] at q0 q1 q2 q3 q4 q5 q6
      have hlen : (rest ++ [(⟨tb, tq, _, .mk tt ta r gg v rows nl n kids⟩ : Ent)]).length = rest.length + 1 := by simp
      rw [hlen] at hown hLc hsc ⊢
      rw [List.map_append] at hown
      obtain ⟨pc, hown2, hglt, hcap⟩ := ownsRow_pop1 hown
      have HO : Hid (wr.ownsRow (w.heap.size + 1) 27 1 (.slice (some ⟨g, 0, none⟩) rest.length cap) rest.length (rest.map pt)) := hown2
      have HG : Hid (Good W0 rest) := fun e he => hgood e (by simp [he])
      have HN : Hid (m + (sN rest + (r.n + gg.n + v.n + sumTo n fun i => (kids i).names)) = T0.names) := by rw [sN_append] at hsn; exact hsn
      have HC : Hid (c + (sC rest + (1 + sumTo n fun i => (kids i).nodes)) = T0.nodes + (rest.length + 1)) := by rw [sC_append] at hsc; exact hsc
      obtain ⟨jb, jo, hj⟩ : ∃ jb jo, n = 0 ∨ (jx = some ⟨jb, jo, none⟩ ∧ jb < w.heap.size + 1 ∧ ∀ i, i < n → ∃ u, At W0 jb (jo + i * 7) u ∧ IsF 0 W0 (kids i) u) := by
        rcases kk with ⟨_, h, _⟩ | ⟨_, _, h, _⟩ | ⟨jb, jo, h, _, _, _, hlt, hx⟩
        · exact ⟨0, 0, .inl h⟩
        · exact ⟨0, 0, .inl h⟩
        · exact ⟨jb, jo, .inr ⟨h, by omega, hx⟩⟩
      have HJ : Hid (n = 0 ∨ (jx = some ⟨jb, jo, none⟩ ∧ jb < w.heap.size + 1 ∧ ∀ i, i < n → ∃ u, At W0 jb (jo + i * 7) u ∧ IsF 0 W0 (kids i) u)) := hj
      clear hown hown2 hgood hsn hsc hAu hFu s1 s2 s3 kk hlen hj
      generalize r.n = A at *
      generalize gg.n = G at *
      generalize v.n = V at *
      generalize hrl : rest.length = rl at *
      have HRL : Hid (rest.length = rl) := hrl
      clear hrl
      have hcap' : ((rl + 1 : Nat) : Int) ≤ (cap : Int) := by omega
      have e1 : ((rl + 1 : Nat) : Int) - 1 = (rl : Int) := by omega
      have hpc : wr.cell? ⟨g, rl, none⟩ = some (.pointer (some ⟨tb, tq, none⟩)) := pc
      clear pc
      go_wp2_with fail
      go_quiet (fail)
      have ho : A + G + V ≤ 26388279066624 := by omega
      by_cases hbig : 1048576 < m + (A + G + V)
      · have hbig' : (1048576 : Int) < (m : Int) + ((A : Int) + (G : Int) + (V : Int)) := by omega
        go_wp2_with fail
        go_ret
        exact ⟨rfl, below_drewN (hbW0.trans (hbel.mono (by omega))) _⟩
      · have hbig' : ¬ (1048576 : Int) < (m : Int) + ((A : Int) + (G : Int) + (V : Int)) := by omega
        by_cases hbign : 65536 < c + n
        · have hbign' : (65536 : Int) < (c : Int) + (n : Int) := by omega
          go_wp2_with fail
          go_ret
          exact ⟨rfl, below_drewN (hbW0.trans (hbel.mono (by omega))) _⟩
        · have hbign' : ¬ (65536 : Int) < (c : Int) + (n : Int) := by omega
          go_wp2_with fail
          have hbd := below_drewN hbel nq
          have hOd := ownsRow_drewN HO.out nq
          have HOD : Hid ((wr.drewN nq).ownsRow (w.heap.size + 1) 27 1 (.slice (some ⟨g, 0, none⟩) rl cap) rl (rest.map pt)) := hOd
          have hq6 : W0.cell? ⟨tb, tq + 6, none⟩ = some (.slice jx n jc) := by rw [← hbel.cell (p := ⟨tb, _, none⟩) htb]; exact q6
          have HQ6 : Hid (W0.cell? ⟨tb, tq + 6, none⟩ = some (.slice jx n jc)) := hq6
          obtain ⟨kid, hkid⟩ : ∃ kid : Nat → Ent, ∀ i, kid i = ⟨jb, jo + i * 7, _, kids i⟩ := ⟨fun i => ⟨jb, jo + i * 7, _, kids i⟩, fun _ => rfl⟩
          have HKID : Hid (∀ i, kid i = ⟨jb, jo + i * 7, _, kids i⟩) := hkid
          clear hOd HO q0 q1 q2 q3 q4 q5 q6 hq6 hkid hbel hpc hglt hcap' e1
          generalize wr.drewN nq = wd at *
          go_loopw [3, 61] (fun st i wr => ∃ (k g' cap' : Nat), k ≤ n ∧ i = .int .i64 k ∧ st = .slice (some ⟨g', 0, none⟩) (rl + k) cap' ∧ wr.ownsRow (w.heap.size + 1) 27 1 (.slice (some ⟨g', 0, none⟩) (rl + k) cap') (rl + k) ((rest ++ (List.range k).map kid).map pt) ∧ Below (w.heap.size + 1) W0 wr) (fun _ i _ => n - (intOf i).toNat)
          case atStart => exact ⟨0, g, cap, Nat.zero_le _, rfl, rfl, by simpa using HOD.out, hbd⟩
          case round =>
            obtain ⟨k, g', cap', hk, rfl, rfl, hown, hbel⟩ := hrel
            have HO : Hid (wr.ownsRow (w.heap.size + 1) 27 1 (.slice (some ⟨g', 0, none⟩) (rl + k) cap') (rl + k) ((rest ++ (List.range k).map kid).map pt)) := hown
            clear hown
            by_cases hkn : k < n
            · rcases HJ.out with h | ⟨rfl, hjb, hx⟩
              · omega
              have q6 := HQ6.out
              rw [← hbel.cell (p := ⟨tb, _, none⟩) htb] at q6
              have hkn' : (k : Int) < (n : Int) := by omega
              have hszr := hbel.size
              rw [hsz0] at hszr
              clear hx
              go_wp2_with (at_builtin; refine wpList_append_own _ rfl (.tmp 64) (.tmp 71) 28 rfl (w.heap.size + 1) 27 i0 (.pointer none) 1 8 Yba.underlying28 hi hz0 hz1 hz2 rfl (by decide) _ (rl + k) _ rfl (HO.out.alloc _) ⟨wr.heap.size, 0, none⟩ 1 1 [.pointer (some ⟨jb, jo + k * 7, none⟩)] rfl rfl ?c1 ?c2 (by unfold maxLen; omega) (by omega) (by simp; omega) ?_)
              case c2 => rfl
              intro v' w2 hown' hgrow hnn
              have hex : ∃ g2 cap2, v' = .slice (some ⟨g2, 0, none⟩) (rl + k + 1) cap2 := by
                rcases hown'.2 with ⟨rfl, hz⟩ | ⟨g2, cap2, cur, rfl, _⟩
                · simp at hnn
                · exact ⟨g2, cap2, rfl⟩
              obtain ⟨g2, cap2, hv⟩ := hex
              rw [hv] at hown' ⊢
              have hb2 : Below (w.heap.size + 1) W0 w2 := (hbel.alloc (by omega) _).grown hgrow (by simp; omega) (by intro r hr; simp [Value.ownBlock] at hr; have := (HO.out.lt g' rfl).1; omega)
              have hO2 : w2.ownsRow (w.heap.size + 1) 27 1 (.slice (some ⟨g2, 0, none⟩) (rl + (k + 1)) cap2) (rl + (k + 1)) ((rest ++ (List.range (k + 1)).map kid).map pt) := by
                have e : (rest ++ (List.range (k + 1)).map kid).map pt = List.map pt rest ++ (List.map (pt ∘ kid) (List.range k) ++ [Value.pointer (some ⟨jb, jo + k * 7, none⟩)]) := by
                  rw [List.range_succ]; simp [HKID.out k, pt]
                rw [e]
                exact hown'
              have HO2 : Hid (w2.ownsRow (w.heap.size + 1) 27 1 (.slice (some ⟨g2, 0, none⟩) (rl + (k + 1)) cap2) (rl + (k + 1)) ((rest ++ (List.range (k + 1)).map kid).map pt)) := hO2
              clear hO2 hown' hgrow hnn hv HO q6
              go_wp2_with fail
              go_roundw
              case rel => exact ⟨k + 1, g2, cap2, by omega, by go_num, rfl, HO2.out, hb2⟩
              case measure => simp [intOf]; omega
            · have hkn2 : k = n := by omega
              subst hkn2
              go_wp2_with fail
              go_roundw
              case rel =>
                have hl : (rest ++ (List.range k).map kid).length = rl + k := by simp [HRL.out]
                have e1 : (fun i => (kid i).T.names) = fun i => (kids i).names := by funext i; rw [HKID.out i]
                have e2 : (fun i => (kid i).T.nodes) = fun i => (kids i).nodes := by funext i; rw [HKID.out i]
                refine ⟨rest ++ (List.range k).map kid, g', cap', c + k, m + (A + G + V), by rw [hl], by go_num, by go_num, by rw [hl]; exact HO.out, hbel, ?_, ?_, ?_, by omega, by omega, by rw [hl]; omega⟩
                · intro e he
                  rcases List.mem_append.1 he with he | he
                  · exact HG.out e he
                  · obtain ⟨i, hi, rfl⟩ := List.mem_map.1 he
                    rw [HKID.out i]
                    rcases HJ.out with h | ⟨_, _, hx⟩
                    · have := List.mem_range.1 hi; omega
                    · exact hx i (List.mem_range.1 hi)
                · rw [sN_append, sN_range, e1]
                  have := HN.out
                  omega
                · rw [sC_append, sC_range, e2, hl]
                  have := HC.out
                  omega
              case measure =>
                have h1 := HC.out
                have h2 := sC_ge rest
                rw [HRL.out] at h2
                simp [intOf, lenOf]
                omega
end Go.Proofs.Ybulkdxpk
