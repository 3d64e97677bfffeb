import Derived.Test.YbulkdxngM
import Derived.ProofKit
import Derived.OpenShut
import Derived.ChangeOld
import Derived.Deep.Slices
namespace Go.Proofs.Ybulkdxng
open Go.ChangeShapes Go.WideShapes Go.ChangeAt Go.RowKit Go.Deep
set_option linter.unusedVariables false

theorem Yba.ownB : ownKnob Yba.prog.godebug = none := by kernel_rfl
theorem Yba.laidOutB : laidOutB Yba.prog = true := by kernel_rfl
theorem Yba.cells2 : Yba.prog.cellsOf 2 = 1 := by kernel_rfl
theorem Yba.cells5 : Yba.prog.cellsOf 5 = 1 := by kernel_rfl
theorem Yba.cells25 : Yba.prog.cellsOf 25 = 1 := by kernel_rfl

theorem choose_val {α : Type} (d : α) {n : Nat} {P : Nat → α → Prop} (h : ∀ i, i < n → ∃ m, P i m) : ∃ f : Nat → α, ∀ i, i < n → P i (f i) := by
  refine ⟨fun i => if hi : i < n then (h i hi).choose else d, fun i hi => ?_⟩
  show P i (if hi : i < n then (h i hi).choose else d)
  rw [dif_pos hi]
  exact (h i hi).choose_spec

theorem opened_i {H : Type} {enc : TypeId × Value → H} {W : World} {a0 : Option Addr} {len cap : Nat} {d : DataW H} {p : List MemPlace} {fuel : Nat}
    (hf : DataW.trod enc Yba.prog W 0 (fun _ => true) true fuel 22 [.slice a0 len cap] = some (d, p)) : ∃ f, D.InI W a0 len f := by
  rcases open_slice Yba.underlying22 hf with ⟨hcs, hx⟩ | ⟨a, l, c, m, n, DD, Pl, hcs, _, hl, hm, hmm, hx, hel⟩
  · simp at hcs
    obtain ⟨rfl, rfl, rfl⟩ := hcs
    exact ⟨fun _ => 0, .inl rfl⟩
  · simp at hcs
    obtain ⟨rfl, rfl, rfl⟩ := hcs
    simp only [if_true] at hmm
    subst hmm
    by_cases h0 : len = 0
    · exact ⟨fun _ => 0, .inl h0⟩
    · have key : ∀ i, i < len → ∃ q : Int, W.cell? (a.add (i * 1)) = some (.int .i64 q) := by
        intro i hi
        obtain ⟨cs', hc, ht⟩ := hel i (by omega)
        rw [Yba.cells2] at hc
        obtain ⟨q0, e0, _, _⟩ := DataW.trod_int Yba.underlying2 ht
        subst e0
        exact ⟨q0, cell_of_cells?_one hc⟩
      obtain ⟨zs, hzs⟩ := choose_val 0 key
      obtain ⟨b, off, spot⟩ := a
      have hspot : spot = none := by
        have := hzs 0 (by omega)
        simpa [Addr.add] using World.cell?_spot this
      subst hspot
      refine ⟨zs, .inr ⟨b, off, rfl, ?_, fun i hi => ?_⟩⟩
      · have := World.block_lt_of_cell? W _ (hzs 0 (by omega))
        simpa [Addr.add_lit] using this
      · have := hzs i hi
        simpa [Addr.add_lit] using this
theorem opened_u {H : Type} {enc : TypeId × Value → H} {W : World} {a0 : Option Addr} {len cap : Nat} {d : DataW H} {p : List MemPlace} {fuel : Nat}
    (hf : DataW.trod enc Yba.prog W 0 (fun _ => true) true fuel 25 [.slice a0 len cap] = some (d, p)) : ∃ f, D.InU W a0 len f := by
  rcases open_slice Yba.underlying25 hf with ⟨hcs, hx⟩ | ⟨a, l, c, m, n, DD, Pl, hcs, _, hl, hm, hmm, hx, hel⟩
  · simp at hcs
    obtain ⟨rfl, rfl, rfl⟩ := hcs
    exact ⟨fun _ => 0, .inl rfl⟩
  · simp at hcs
    obtain ⟨rfl, rfl, rfl⟩ := hcs
    simp only [if_true] at hmm
    subst hmm
    by_cases h0 : len = 0
    · exact ⟨fun _ => 0, .inl h0⟩
    · have key : ∀ i, i < len → ∃ q : Int, W.cell? (a.add (i * 1)) = some (.int .u8 q) ∧ 0 ≤ q ∧ q ≤ 255 := by
        intro i hi
        obtain ⟨cs', hc, ht⟩ := hel i (by omega)
        rw [Yba.cells5] at hc
        obtain ⟨q0, e0, _, hw0⟩ := DataW.trod_int Yba.underlying5 ht
        subst e0
        have hb := bounds_u8 hw0
        exact ⟨q0, cell_of_cells?_one hc, hb.1, hb.2⟩
      obtain ⟨zs, hzs⟩ := choose_val 0 key
      obtain ⟨b, off, spot⟩ := a
      have hspot : spot = none := by
        have := (hzs 0 (by omega)).1
        simpa [Addr.add] using World.cell?_spot this
      subst hspot
      refine ⟨zs, .inr ⟨b, off, rfl, ?_, fun i hi => ?_⟩⟩
      · have := World.block_lt_of_cell? W _ (hzs 0 (by omega)).1
        simpa [Addr.add_lit] using this
      · have := hzs i hi
        simpa [Addr.add_lit] using this
theorem opened_k {H : Type} {enc : TypeId × Value → H} {W : World} {a0 : Option Addr} {len cap : Nat} {d : DataW H} {p : List MemPlace} {fuel : Nat}
    (hf : DataW.trod enc Yba.prog W 0 (fun _ => true) true fuel 23 [.slice a0 len cap] = some (d, p)) : ∃ kx kn kc kb, D.InK W a0 len kx kn kc kb := by
  rcases open_slice Yba.underlying23 hf with ⟨hcs, hx⟩ | ⟨a, l, c, m, n, DD, Pl, hcs, _, hl, hm, hmm, hx, hel⟩
  · simp at hcs
    obtain ⟨rfl, rfl, rfl⟩ := hcs
    exact ⟨fun _ => none, fun _ => 0, fun _ => 0, fun _ _ => 0, .inl rfl⟩
  · simp at hcs
    obtain ⟨rfl, rfl, rfl⟩ := hcs
    simp only [if_true] at hmm
    subst hmm
    by_cases h0 : len = 0
    · exact ⟨fun _ => none, fun _ => 0, fun _ => 0, fun _ _ => 0, .inl h0⟩
    · have key : ∀ i, i < len → ∃ q : Option Addr × Nat × Nat × (Nat → Int), W.cell? (a.add (i * 1)) = some (.slice q.1 q.2.1 q.2.2.1) ∧ D.InU W q.1 q.2.1 q.2.2.2 := by
        intro i hi
        obtain ⟨cs', hc, ht⟩ := hel i (by omega)
        rw [Yba.cells25] at hc
        obtain ⟨u, rfl⟩ : ∃ u, cs' = [u] := by
          have hlen : cs'.length = 1 := (World.cells?_some hc).2.1
          match cs', hlen with
          | [u], _ => exact ⟨u, rfl⟩
        obtain ⟨x, nn, cc, rfl⟩ : ∃ x nn cc, u = .slice x nn cc := by
          rcases open_slice Yba.underlying25 ht with ⟨hcs, _⟩ | ⟨_, _, _, _, _, _, _, hcs, _⟩ <;> · simp at hcs; exact ⟨_, _, _, hcs⟩
        obtain ⟨f, hu⟩ := opened_u (d := (DD i)) (p := (Pl i)) ht
        exact ⟨(x, nn, cc, f), cell_of_cells?_one hc, hu⟩
      obtain ⟨zs, hzs⟩ := choose_val (none, 0, 0, fun _ => 0) key
      obtain ⟨b, off, spot⟩ := a
      have hspot : spot = none := by
        have := (hzs 0 (by omega)).1
        simpa [Addr.add] using World.cell?_spot this
      subst hspot
      refine ⟨fun i => (zs i).1, fun i => (zs i).2.1, fun i => (zs i).2.2.1, fun i => (zs i).2.2.2, .inr ⟨b, off, rfl, ?_, fun i hi => ?_⟩⟩
      · have := World.block_lt_of_cell? W _ (hzs 0 (by omega)).1
        simpa [Addr.add_lit] using this
      · have := hzs i hi
        exact ⟨by simpa [Addr.add_lit] using this.1, this.2⟩

set_option maxRecDepth 100000 in
theorem liftedB (os : Os) (started : os.Started) (H : Type) (enc : TypeId × Value → H) :
    ReturnsInHanded {} Yba.checked os 3 .any (Rows.lawS6207BWholeSpec.pre6 enc Yba.prog Yba.f3 Rows.lawS6207BWholeRow.domain false) (Rows.lawS6207BWholeSpec.post enc Yba.prog Yba.f3 false true false false) := by
  refine returnsInHanded_of_change (C := Yba.checked) Yba.ownB started (by kernel_rfl) Yba.func3
    (ChangeSpec.witness6 (enc := enc) (C := Yba.checked) false ⟨#[], #[.slice none 0 0, .slice none 0 0, .slice none 0 0], []⟩ 8 (by kernel_rfl) (by kernel_rfl) (by kernel_rfl) (by kernel_rfl)) ?_
  intro W base args ds gs before hval0 hW hcnd _
  have hval : ∀ (j : Nat) t v, Yba.f3.params[j]? = some t → args[j]? = some v → Value.okWide Yba.prog W .any base t v := hval0
  have hW' := hW
  obtain ⟨p, q, hA0, hV, rfl, hfz, hnd⟩ := hW
  have hA : DataW.TrodAll enc Yba.prog W 0 (fun _ => true) true Yba.f3.params.toList args.toList ds p := hA0
  rw [Yba.params3] at hA hval
  obtain ⟨v0, vs0, d0, ds0, p0, q0, hargs, rfl, rfl, h0, r0⟩ := trodAll_cons hA
  obtain ⟨v1, vs1, d1, ds1, p1, q1, rfl, rfl, rfl, h1, r1⟩ := trodAll_cons r0
  obtain ⟨v2, vs2, d2, ds2, p2, q2, rfl, rfl, rfl, h2, r2⟩ := trodAll_cons r1
  obtain ⟨rfl, rfl, rfl⟩ := trodAll_nil r2
  obtain rfl : args = #[v0, v1, v2] := by cases args; simp_all
  obtain ⟨rfl, rfl⟩ := trodVars_none hV
  obtain ⟨a0, len0, cap0, rfl⟩ := okWide_slice Yba.underlying22 (hval 0 22 v0 rfl rfl)
  obtain ⟨a1, len1, cap1, rfl⟩ := okWide_slice Yba.underlying23 (hval 1 23 v1 rfl rfl)
  obtain ⟨a2, len2, cap2, rfl⟩ := okWide_slice Yba.underlying22 (hval 2 22 v2 rfl rfl)
  have k0 := h0
  have k1 := h1
  have k2 := h2
  have lt0 : ∀ x ∈ p0, x.block < W.heap.size := by obtain ⟨m, hm⟩ := k0; exact DataW.trod_lt m _ _ _ hm
  have lt1 : ∀ x ∈ p1, x.block < W.heap.size := by obtain ⟨m, hm⟩ := k1; exact DataW.trod_lt m _ _ _ hm
  have lt2 : ∀ x ∈ p2, x.block < W.heap.size := by obtain ⟨m, hm⟩ := k2; exact DataW.trod_lt m _ _ _ hm
  obtain ⟨f0, hI0⟩ : ∃ f, D.InI W a0 len0 f := by
    obtain ⟨fuel, hf⟩ := h0
    exact opened_i hf
  obtain ⟨kx, kn, kc, kb, hI1⟩ : ∃ kx kn kc kb, D.InK W a1 len1 kx kn kc kb := by
    obtain ⟨fuel, hf⟩ := h1
    exact opened_k hf
  obtain ⟨f2, hI2⟩ : ∃ f, D.InI W a2 len2 f := by
    obtain ⟨fuel, hf⟩ := h2
    exact opened_i hf
  have hkb : ∀ j t, j < len1 → t < kn j → 0 ≤ kb j t := fun j t hj ht => by
    rcases hI1 with h | ⟨b, o, _, _, h⟩
    · omega
    · rcases (h j hj).2 with h' | ⟨b', o', _, _, h'⟩
      · omega
      · exact (h' t ht).2.1
  obtain ⟨hok, hdi⟩ := D.mkD_spec (n0 := len0) (n1 := len1) (n2 := len2) (f0 := f0) (f2 := f2) (kn := kn) (kb := kb) hkb
  clear hA0 hval0
  refine (D.lawB_any _ hok a0 a1 a2 len0 cap0 len1 cap1 len2 cap2 f0 f2 kx kn kc kb hdi W hI0 hI1 hI2).mono fun e W' ⟨he, bel⟩ => ?_
  subst he
  exact ⟨_, rfl, _, _, _, [], _, [], hW', trodAll_mk1 (shut_bool Yba.underlying4 _), (trodAll_cons_mk (Below.trod Yba.laidOutB (by kernel_rfl) (of_decide_eq_true (by kernel_rfl)) k0 bel lt0) (trodAll_cons_mk (Below.trod Yba.laidOutB (by kernel_rfl) (of_decide_eq_true (by kernel_rfl)) k1 bel lt1) (trodAll_cons_mk (Below.trod Yba.laidOutB (by kernel_rfl) (of_decide_eq_true (by kernel_rfl)) k2 bel lt2) trodAll_mk0))), rfl, bel.frame _, fun h => by cases h⟩

theorem overB : Rows.lawS6207BWholeRow.holds Yba.pinned (OpenSpec.ofChange Rows.lawS6207BWholeSpec) :=
  OpenClaim.holds_of_wide 3 Yba.f3 rfl rfl rfl rfl rfl rfl rfl ⟨rfl, rfl, rfl, rfl, rfl⟩ rfl rfl rfl rfl rfl (by kernel_rfl) Yba.func3 (by kernel_rfl)
    (of_decide_eq_true (by kernel_rfl)) (by unfold Func.isWrapper; first | (rw [if_pos (by decide +kernel)]; kernel_rfl) | (rw [if_neg (by decide +kernel)]; exact ⟨rfl, rfl⟩))
    (fun os started H enc _ => liftedB os started H enc)

theorem provedB : Rows.LawS6207BWholeSaid := overB
end Go.Proofs.Ybulkdxng
