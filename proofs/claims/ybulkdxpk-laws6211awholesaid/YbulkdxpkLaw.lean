import Derived.Test.YbulkdxpkE
import Derived.ProofKit
import Derived.OpenShut
import Derived.ShutString
import Derived.ChangeOld
import Derived.SizedLaws
import Derived.Deep.Strs
import Derived.Deep.Slices
namespace Go.Proofs.Ybulkdxpk
open Go.ChangeShapes Go.WideShapes Go.ChangeAt Go.RowKit Go.Deep
open Go.ChangeMaps (open_string shut_string)
set_option linter.unusedVariables false

theorem Yba.own : ownKnob Yba.prog.godebug = none := by kernel_rfl
theorem Yba.laidOut : laidOutB Yba.prog = true := by kernel_rfl
theorem Yba.cells26 : Yba.prog.cellsOf 26 = 7 := by kernel_rfl
theorem Yba.cells9 : Yba.prog.cellsOf 9 = 1 := by kernel_rfl
theorem Yba.cells22 : Yba.prog.cellsOf 22 = 1 := by kernel_rfl
theorem Yba.cells23 : Yba.prog.cellsOf 23 = 1 := by kernel_rfl
theorem Yba.cells2 : Yba.prog.cellsOf 2 = 1 := by kernel_rfl
theorem Yba.cells24 : Yba.prog.cellsOf 24 = 1 := by kernel_rfl
theorem Yba.bytes26 : Yba.prog.bytesOf 26 = 136 := by kernel_rfl
theorem Yba.bytes9 : Yba.prog.bytesOf 9 = 16 := by kernel_rfl

theorem choose_fn {α : Type} (dflt : α) {n : Nat} {P : Nat → α → Prop} (h : ∀ i, i < n → ∃ m, P i m) : ∃ f : Nat → α, ∀ i, i < n → P i (f i) := by
  refine ⟨fun i => if hi : i < n then (h i hi).choose else dflt, fun i hi => ?_⟩
  show P i (if hi : i < n then (h i hi).choose else dflt)
  rw [dif_pos hi]
  exact (h i hi).choose_spec

theorem weights_of_mem {H : Type} {P : Program} {e : TypeId} {d : DataW H} {m : Nat} : ∀ {l : List (DataW H)}, d ∈ l → m ∈ DataW.weights P e d → m ∈ DataW.weightsAll P e l
  | [], h, _ => by cases h
  | a :: l, h, hm => by
    simp only [DataW.weightsAll, List.mem_append]
    rcases List.mem_cons.1 h with rfl | h
    · exact .inl hm
    · exact .inr (weights_of_mem h hm)

section
variable {H : Type} {enc : TypeId × Value → H} {W : World}

/-- a slice of strings, opened -/
theorem opened_s {v : Value} {d : DataW H} {p : List MemPlace} {fuel : Nat}
    (hf : DataW.trod enc Yba.prog W 0 (fun _ => true) true fuel 23 [v] = some (d, p)) (hw : ∀ m, m ∈ DataW.weights Yba.prog 23 d → m ≤ reachBytes) :
    ∃ x c q, v = .slice x q.n c ∧ IsS 0 W x c q ∧ q.n ≤ 8796093022208 := by
  rcases open_slice1 Yba.underlying23 Yba.cells9 hf with ⟨hcs, hx⟩ | ⟨a, len, cap, m, n, V, D, Pl, hcs, _, hl, hm, hmm, hx, hel⟩
  · simp at hcs
    exact ⟨none, 0, ⟨true, 0, fun _ => ⟨#[]⟩⟩, hcs, .inl ⟨rfl, rfl, rfl, rfl⟩, by simp⟩
  · simp at hcs
    simp only [Prod.mk.injEq] at hx
    simp only [if_true] at hmm
    subst hmm
    have hb : len ≤ 8796093022208 := by
      have h := hw (((List.range len).map D).length * 16 + ((List.range (m - len)).map fun j => D (len + j)).length * 16) (by
        rw [hx.1]
        simp only [DataW.weights, Yba.underlying23, Yba.bytes9, List.mem_cons]
        exact .inl (by rw [Nat.add_mul]))
      simp [reachBytes] at h
      omega
    by_cases h0 : len = 0
    · subst h0
      exact ⟨some a, m, ⟨false, 0, fun _ => ⟨#[]⟩⟩, hcs, .inr (.inl ⟨_, rfl, rfl, rfl⟩), by simp⟩
    · have key : ∀ i, i < len → ∃ q : ByteArray, W.cell? (a.add i) = some (.string q) := by
        intro i hi
        obtain ⟨hc, ht⟩ := hel i (by omega)
        obtain ⟨q, e0, _, _⟩ := DataW.trod_string Yba.underlying9 ht
        simp at e0
        exact ⟨q, by rw [hc, e0]⟩
      obtain ⟨ss, hss⟩ := choose_fn (⟨#[]⟩ : ByteArray) key
      obtain ⟨b, off, spot⟩ := a
      have hspot : spot = none := by
        have := hss 0 (by omega)
        simpa [Addr.add] using World.cell?_spot this
      subst hspot
      refine ⟨_, m, ⟨false, len, ss⟩, hcs, .inr (.inr ⟨b, off, rfl, by show 0 < len; omega, rfl, Nat.zero_le _, ?_, fun i hi => ?_⟩), hb⟩
      · have := World.block_lt_of_cell? W _ (hss 0 (by omega))
        simpa [Addr.add_lit] using this
      · have := hss i hi
        simpa [Addr.add_lit] using this

theorem trod_struct7 {P : Program} {w : World} {base : Nat} {spare : Nat → Bool} {held : Bool} {t : TypeId} {f0 f1 f2 f3 f4 f5 f6 : Field} {fuel : Nat} {cs : List Value} {x : DataW H × List MemPlace} (ht : P.underlying t = some (.struct #[f0, f1, f2, f3, f4, f5, f6])) (h : DataW.trod enc P w base spare held fuel t cs = some x) :
    ∃ y0 y1 y2 y3 y4 y5 y6 n, fuel = n + 1 ∧ x.1 = .agg [Prod.fst y0, Prod.fst y1, Prod.fst y2, Prod.fst y3, Prod.fst y4, Prod.fst y5, Prod.fst y6] ∧ cs.length = P.cellsOf t ∧ DataW.trod enc P w base spare held n f0.type ((cs.drop f0.offset).take (P.cellsOf f0.type)) = some y0 ∧
      DataW.trod enc P w base spare held n f1.type ((cs.drop f1.offset).take (P.cellsOf f1.type)) = some y1 ∧ DataW.trod enc P w base spare held n f2.type ((cs.drop f2.offset).take (P.cellsOf f2.type)) = some y2 ∧
      DataW.trod enc P w base spare held n f3.type ((cs.drop f3.offset).take (P.cellsOf f3.type)) = some y3 ∧ DataW.trod enc P w base spare held n f4.type ((cs.drop f4.offset).take (P.cellsOf f4.type)) = some y4 ∧
      DataW.trod enc P w base spare held n f5.type ((cs.drop f5.offset).take (P.cellsOf f5.type)) = some y5 ∧ DataW.trod enc P w base spare held n f6.type ((cs.drop f6.offset).take (P.cellsOf f6.type)) = some y6 := by
  obtain ⟨xs, n, hn, rfl, hl, hlen, hf⟩ := DataW.trod_struct ht h
  match xs, hlen with
  | [y0, y1, y2, y3, y4, y5, y6], _ => exact ⟨y0, y1, y2, y3, y4, y5, y6, n, hn, by simp, hl, by simpa using hf 0 f0 rfl, by simpa using hf 1 f1 rfl, by simpa using hf 2 f2 rfl, by simpa using hf 3 f3 rfl, by simpa using hf 4 f4 rfl, by simpa using hf 5 f5 rfl, by simpa using hf 6 f6 rfl⟩

/-- a footprint, opened -/
theorem opened_f : ∀ (fuel : Nat) (cs : List Value) (d : DataW H) (p : List MemPlace),
    DataW.trod enc Yba.prog W 0 (fun _ => true) true fuel 26 cs = some (d, p) → (∀ m, m ∈ DataW.weights Yba.prog 26 d → m ≤ reachBytes) →
    ∃ T : FT (fuel / 2 + 1), cs.length = 7 ∧ IsF 0 W T (.agg cs.toArray) := by
  intro fuel
  induction fuel using Nat.strongRecOn with
  | ind fuel ih =>
    intro cs d p hf hw
    obtain ⟨y0, y1, y2, y3, y4, y5, y6, n, hn, hd, hlen, t0, t1, t2, t3, t4, t5, t6⟩ := trod_struct7 Yba.underlying26 hf
    rw [Yba.cells26] at hlen
    obtain ⟨u0, u1, u2, u3, u4, u5, u6, rfl⟩ : ∃ u0 u1 u2 u3 u4 u5 u6, cs = [u0, u1, u2, u3, u4, u5, u6] := by
      match cs, hlen with
      | [u0, u1, u2, u3, u4, u5, u6], _ => exact ⟨u0, u1, u2, u3, u4, u5, u6, rfl⟩
    simp only at hd
    obtain ⟨q0, e0, _, _⟩ := DataW.trod_string Yba.underlying9 t0
    obtain ⟨q1, e1, _, _⟩ := DataW.trod_string Yba.underlying22 t1
    obtain ⟨q5, e5, _, _⟩ := DataW.trod_int Yba.underlying2 t5
    simp [Yba.cells9, Yba.cells22, Yba.cells2] at e0 e1 e5
    simp [Yba.cells23, Yba.cells24] at t2 t3 t4 t6
    subst e0 e1 e5
    have hwj : ∀ (j : Nat) (t : TypeId) (dj : DataW H), ([9, 22, 23, 23, 23, 2, 24] : List TypeId)[j]? = some t → [y0.1, y1.1, y2.1, y3.1, y4.1, y5.1, y6.1][j]? = some dj → ∀ m, m ∈ DataW.weights Yba.prog t dj → m ≤ reachBytes := by
      intro j t dj h1 h2 m hm
      refine hw m ?_
      rw [hd]
      simp only [DataW.weights, Yba.underlying26]
      exact DataW.weights_mem_each h1 h2 m hm
    obtain ⟨x2, c2, s2, rfl, i2, b2⟩ := opened_s (d := y2.1) (p := y2.2) t2 (hwj 2 23 _ rfl rfl)
    obtain ⟨x3, c3, s3, rfl, i3, b3⟩ := opened_s (d := y3.1) (p := y3.2) t3 (hwj 3 23 _ rfl rfl)
    obtain ⟨x4, c4, s4, rfl, i4, b4⟩ := opened_s (d := y4.1) (p := y4.2) t4 (hwj 4 23 _ rfl rfl)
    rcases DataW.trod_slice Yba.underlying24 t6 with ⟨hcs, _⟩ | ⟨a, len, cap, elems, rest, n', hn', hcs, hx, _, hl, hm, hel, hget, _, _⟩
    · simp at hcs
      subst hcs
      refine ⟨FT.mk q0 q1 s2 s3 s4 q5 true 0 (fun _ => FT.nought), rfl, ?_⟩
      simp only [IsF_mk]
      exact ⟨_, _, _, _, _, _, _, _, rfl, i2, i3, i4, ⟨b2, b3, b4, by omega⟩, .inl ⟨by trivial, by trivial, by trivial, by trivial⟩⟩
    · simp at hcs
      subst hcs
      have hb : len ≤ 8796093022208 := by
        have h := hwj 6 24 _ rfl rfl ((elems.map (·.1)).length * 136 + (rest.map (·.1)).length * 136) (by
          rw [hx]
          simp only [DataW.weights, Yba.underlying24, Yba.bytes26, List.mem_cons]
          exact .inl (by rw [Nat.add_mul]))
        simp [reachBytes] at h
        omega
      by_cases h0 : len = 0
      · subst h0
        refine ⟨FT.mk q0 q1 s2 s3 s4 q5 false 0 (fun _ => FT.nought), rfl, ?_⟩
        simp only [IsF_mk]
        exact ⟨_, _, _, _, _, _, _, _, rfl, i2, i3, i4, ⟨b2, b3, b4, by omega⟩, .inr (.inl ⟨_, rfl, by trivial, by trivial⟩)⟩
      · have key : ∀ i, i < len → ∃ T : FT (n' / 2 + 1), ∃ u, (∃ u0 u1 u2 u3 u4 u5 u6, u = .agg #[u0, u1, u2, u3, u4, u5, u6] ∧ W.cell? ((a.add (i * 7)).add 0) = some u0 ∧ W.cell? ((a.add (i * 7)).add 1) = some u1 ∧ W.cell? ((a.add (i * 7)).add 2) = some u2 ∧ W.cell? ((a.add (i * 7)).add 3) = some u3 ∧ W.cell? ((a.add (i * 7)).add 4) = some u4 ∧ W.cell? ((a.add (i * 7)).add 5) = some u5 ∧ W.cell? ((a.add (i * 7)).add 6) = some u6) ∧ IsF 0 W T u := by
          intro i hi
          have hg := hget i hi
          rw [List.getElem?_eq_getElem (by omega)] at hg
          obtain ⟨cs', h1, h2⟩ := Option.bind_eq_some_iff.1 hg
          rw [Yba.cells26] at h1
          obtain ⟨T, hl7, hF⟩ := ih n' (by omega) cs' (elems[i]'(by omega)).1 (elems[i]'(by omega)).2 h2 (fun m hm => by
            refine hwj 6 24 _ rfl rfl m ?_
            rw [hx]
            simp only [DataW.weights, Yba.underlying24, List.mem_cons, List.mem_append]
            exact .inr (.inl (weights_of_mem (List.mem_map.2 ⟨elems[i]'(by omega), List.getElem_mem _, rfl⟩) hm)))
          obtain ⟨v0, v1, v2, v3, v4, v5, v6, rfl⟩ : ∃ v0 v1 v2 v3 v4 v5 v6, cs' = [v0, v1, v2, v3, v4, v5, v6] := by
            match cs', hl7 with
            | [v0, v1, v2, v3, v4, v5, v6], _ => exact ⟨v0, v1, v2, v3, v4, v5, v6, rfl⟩
          obtain ⟨_, _, hcell⟩ := World.cells?_some h1
          exact ⟨T, _, ⟨v0, v1, v2, v3, v4, v5, v6, rfl, by simpa using hcell 0 (by omega), by simpa using hcell 1 (by omega), by simpa using hcell 2 (by omega), by simpa using hcell 3 (by omega), by simpa using hcell 4 (by omega), by simpa using hcell 5 (by omega), by simpa using hcell 6 (by omega)⟩, hF⟩
        obtain ⟨kids, hk⟩ := choose_fn (FT.nought : FT (n' / 2 + 1)) key
        obtain ⟨b, off, spot⟩ := a
        have hspot : spot = none := by
          obtain ⟨u, ⟨v0, v1, v2, v3, v4, v5, v6, _, h, _⟩, _⟩ := hk 0 (by omega)
          simpa [Addr.add] using World.cell?_spot h
        subst hspot
        have hfu : fuel / 2 = n' / 2 + 1 := by omega
        rw [hfu]
        refine ⟨FT.mk q0 q1 s2 s3 s4 q5 false len kids, rfl, ?_⟩
        simp only [IsF_mk]
        refine ⟨_, _, _, _, _, _, _, _, rfl, i2, i3, i4, ⟨b2, b3, b4, hb⟩, .inr (.inr ⟨b, off, rfl, by omega, by trivial, Nat.zero_le _, ?_, fun i hi => ?_⟩)⟩
        · obtain ⟨u, ⟨v0, v1, v2, v3, v4, v5, v6, _, h, _⟩, _⟩ := hk 0 (by omega)
          have := World.block_lt_of_cell? W _ h
          simpa [Addr.add_lit] using this
        · obtain ⟨u, ⟨v0, v1, v2, v3, v4, v5, v6, rfl, g0, g1, g2, g3, g4, g5, g6⟩, hF⟩ := hk i hi
          refine ⟨_, ⟨v0, v1, v2, v3, v4, v5, v6, rfl, ?_⟩, hF⟩
          simp [Addr.add_lit] at g0 g1 g2 g3 g4 g5 g6
          exact ⟨g0, g1, g2, g3, g4, g5, g6⟩
end

set_option maxRecDepth 100000 in
theorem lifted (os : Os) (started : os.Started) (H : Type) (enc : TypeId × Value → H) :
    ReturnsInHanded {} Yba.checked os 3 .any (Rows.lawS6211AWholeSpec.pre6 enc Yba.prog Yba.f3 Rows.lawS6211AWholeRow.domain false) (Rows.lawS6211AWholeSpec.post enc Yba.prog Yba.f3 false true false false) := by
  refine returnsInHanded_of_change_sized (C := Yba.checked) Yba.own started (by kernel_rfl) Yba.func3
    (ChangeSpec.witness6 (enc := enc) (C := Yba.checked) false ⟨#[], #[.agg #[.string ⟨#[]⟩, .string ⟨#[]⟩, .slice none 0 0, .slice none 0 0, .slice none 0 0, .int .i64 0, .slice none 0 0]], []⟩ 8 (by kernel_rfl) (by kernel_rfl) (by kernel_rfl) (by kernel_rfl)) ?_
  intro W base args ds gs before hval0 hW hcnd hsz0 _
  have hval : ∀ (j : Nat) t v, Yba.f3.params[j]? = some t → args[j]? = some v → Value.okWide Yba.prog W .any base t v := hval0
  have hsz : (DataW.weightsEach Yba.prog (Yba.f3.params.toList ++ Rows.lawS6211AWholeSpec.plain.varTypes Yba.prog) (ds ++ gs)).all (· ≤ reachBytes) = true := hsz0
  have hW' := hW
  obtain ⟨p, q, hA0, hV, rfl, hfz, hnd⟩ := hW
  have hA : DataW.TrodAll enc Yba.prog W 0 (fun _ => true) true Yba.f3.params.toList args.toList ds p := hA0
  rw [Yba.params3] at hA hval hsz
  obtain ⟨v0, vs0, d0, ds0, p0, q0, hargs, rfl, rfl, h0, r0⟩ := trodAll_cons hA
  obtain ⟨rfl, rfl, rfl⟩ := trodAll_nil r0
  obtain rfl : args = #[v0] := by cases args; simp_all
  obtain ⟨rfl, rfl⟩ := trodVars_none hV
  obtain ⟨cs, rfl, hcsz⟩ := okWide_struct Yba.underlying26 (hval 0 26 v0 rfl rfl)
  have k0 := h0
  have lt0 : ∀ x ∈ p0, x.block < W.heap.size := by obtain ⟨m, hm⟩ := k0; exact DataW.trod_lt m _ _ _ hm
  have hw0 : ∀ m, m ∈ DataW.weights Yba.prog 26 d0 → m ≤ reachBytes := fun m hm => by
    have := List.all_eq_true.1 hsz m (DataW.weights_mem_each (j := 0) (t := 26) rfl rfl m hm)
    simpa using this
  obtain ⟨dd, T, hT⟩ : ∃ (dd : Nat) (T : FT dd), IsF 0 W T (.agg cs) := by
    obtain ⟨fuel, hf⟩ := h0
    obtain ⟨T, _, hF⟩ := opened_f fuel _ d0 p0 hf hw0
    exact ⟨_, T, by simpa [Value.cells] using hF⟩
  clear hA0 hval0
  refine (law_any T _ W hT).mono fun e W' ⟨he, bel⟩ => ?_
  subst he
  exact ⟨_, rfl, _, _, _, [], _, [], hW', trodAll_mk1 (shut_bool Yba.underlying4 _), trodAll_cons_mk (Below.trod Yba.laidOut (by kernel_rfl) (of_decide_eq_true (by kernel_rfl)) k0 bel lt0) trodAll_mk0, rfl, bel.frame _, fun h => by cases h⟩

theorem over : Rows.lawS6211AWholeRow.holds Yba.pinned (OpenSpec.ofChange Rows.lawS6211AWholeSpec) :=
  OpenClaim.holds_of_wide 3 Yba.f3 rfl rfl rfl rfl rfl rfl rfl ⟨rfl, rfl, rfl, rfl, rfl⟩ rfl rfl rfl rfl rfl (by kernel_rfl) Yba.func3 (by kernel_rfl)
    (of_decide_eq_true (by kernel_rfl)) (by unfold Func.isWrapper; first | (rw [if_pos (by decide +kernel)]; kernel_rfl) | (rw [if_neg (by decide +kernel)]; exact ⟨rfl, rfl⟩))
    (fun os started H enc _ => lifted os started H enc)

theorem proved : Rows.LawS6211AWholeSaid := over
end Go.Proofs.Ybulkdxpk
