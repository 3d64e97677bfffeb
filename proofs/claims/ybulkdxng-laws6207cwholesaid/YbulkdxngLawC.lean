import Derived.Test.YbulkdxngC
import Derived.ProofKit
import Derived.OpenShut
import Derived.ShutString
import Derived.ChangeOld
import Derived.Deep.Slices
namespace Go.Proofs.Ybulkdxng
open Go.ChangeShapes Go.WideShapes Go.ChangeAt Go.RowKit Go.Deep
open Go.ChangeMaps (open_string shut_string)
set_option linter.unusedVariables false

theorem Yba.own : ownKnob Yba.prog.godebug = none := by kernel_rfl
theorem Yba.laidOut : laidOutB Yba.prog = true := by kernel_rfl
theorem Yba.cells9 : Yba.prog.cellsOf 9 = 1 := by kernel_rfl

theorem choose_fn {α : Type} [Inhabited α] {n : Nat} {P : Nat → α → Prop} (h : ∀ i, i < n → ∃ m, P i m) : ∃ f : Nat → α, ∀ i, i < n → P i (f i) := by
  refine ⟨fun i => if hi : i < n then (h i hi).choose else default, fun i hi => ?_⟩
  show P i (if hi : i < n then (h i hi).choose else default)
  rw [dif_pos hi]
  exact (h i hi).choose_spec

theorem opened_s {H : Type} {enc : TypeId × Value → H} {W : World} {a0 : Option Addr} {len cap : Nat} {d : DataW H} {p : List MemPlace} {fuel : Nat}
    (hf : DataW.trod enc Yba.prog W 0 (fun _ => true) true fuel 37 [.slice a0 len cap] = some (d, p)) : ∃ ks, IsS W a0 len cap ks := by
  rcases open_slice Yba.underlying37 hf with ⟨hcs, hx⟩ | ⟨a, l, c, m, n, D, Pl, hcs, _, hl, hm, hmm, hx, hel⟩
  · simp at hcs
    obtain ⟨rfl, rfl, rfl⟩ := hcs
    exact ⟨fun _ => default, .inl ⟨rfl, rfl, rfl⟩⟩
  · simp at hcs
    obtain ⟨rfl, rfl, rfl⟩ := hcs
    simp only [if_true] at hmm
    subst hmm
    by_cases h0 : len = 0
    · exact ⟨fun _ => default, .inr (.inl ⟨_, rfl, h0⟩)⟩
    · have key : ∀ i, i < len → ∃ q : ByteArray, W.cell? (a.add (i * 1)) = some (.string q) := by
        intro i hi
        obtain ⟨cs', hc, ht⟩ := hel i (by omega)
        rw [Yba.cells9] at hc
        obtain ⟨q0, e0, _, _⟩ := DataW.trod_string Yba.underlying9 ht
        subst e0
        exact ⟨q0, cell_of_cells?_one hc⟩
      obtain ⟨zs, hzs⟩ := choose_fn key
      obtain ⟨b, off, spot⟩ := a
      have hspot : spot = none := by
        have := hzs 0 (by omega)
        simpa [Addr.add] using World.cell?_spot this
      subst hspot
      refine ⟨zs, .inr (.inr ⟨b, off, rfl, by omega, ?_, fun i hi => ?_⟩)⟩
      · have := World.block_lt_of_cell? W _ (hzs 0 (by omega))
        simpa [Addr.add_lit] using this
      · have := hzs i hi
        simpa [Addr.add_lit] using this

set_option maxRecDepth 100000 in
theorem liftedC (os : Os) (started : os.Started) (H : Type) (enc : TypeId × Value → H) :
    ReturnsInHanded {} Yba.checked os 4 .any (Rows.lawS6207CWholeSpec.pre6 enc Yba.prog Yba.f4 Rows.lawS6207CWholeRow.domain false) (Rows.lawS6207CWholeSpec.post enc Yba.prog Yba.f4 false true false false) := by
  refine returnsInHanded_of_change (C := Yba.checked) Yba.own started (by kernel_rfl) Yba.func4
    (ChangeSpec.witness6 (enc := enc) (C := Yba.checked) false ⟨#[], #[.bool false, .bool false, .slice none 0 0, .slice none 0 0, .string ⟨#[]⟩, .int .u8 0], []⟩ 8 (by kernel_rfl) (by kernel_rfl) (by kernel_rfl) (by kernel_rfl)) ?_
  intro W base args ds gs before hval0 hW hcnd _
  have hval : ∀ (j : Nat) t v, Yba.f4.params[j]? = some t → args[j]? = some v → Value.okWide Yba.prog W .any base t v := hval0
  have hW' := hW
  obtain ⟨p, q, hA0, hV, rfl, hfz, hnd⟩ := hW
  have hA : DataW.TrodAll enc Yba.prog W 0 (fun _ => true) true Yba.f4.params.toList args.toList ds p := hA0
  rw [Yba.params4] at hA hval
  obtain ⟨v0, vs0, d0, ds0, p0, q0, hargs, rfl, rfl, h0, r0⟩ := trodAll_cons hA
  obtain ⟨v1, vs1, d1, ds1, p1, q1, rfl, rfl, rfl, h1, r1⟩ := trodAll_cons r0
  obtain ⟨v2, vs2, d2, ds2, p2, q2, rfl, rfl, rfl, h2, r2⟩ := trodAll_cons r1
  obtain ⟨v3, vs3, d3, ds3, p3, q3, rfl, rfl, rfl, h3, r3⟩ := trodAll_cons r2
  obtain ⟨v4, vs4, d4, ds4, p4, q4, rfl, rfl, rfl, h4, r4⟩ := trodAll_cons r3
  obtain ⟨v5, vs5, d5, ds5, p5, q5, rfl, rfl, rfl, h5, r5⟩ := trodAll_cons r4
  obtain ⟨rfl, rfl, rfl⟩ := trodAll_nil r5
  obtain rfl : args = #[v0, v1, v2, v3, v4, v5] := by cases args; simp_all
  obtain ⟨rfl, rfl⟩ := trodVars_none hV
  obtain ⟨a0, rfl, rfl, rfl⟩ := open_bool Yba.underlying4 (hval 0 4 v0 rfl rfl) h0
  obtain ⟨a1, rfl, rfl, rfl⟩ := open_bool Yba.underlying4 (hval 1 4 v1 rfl rfl) h1
  obtain ⟨a2, len2, cap2, rfl⟩ := okWide_slice Yba.underlying37 (hval 2 37 v2 rfl rfl)
  obtain ⟨a3, len3, cap3, rfl⟩ := okWide_slice Yba.underlying37 (hval 3 37 v3 rfl rfl)
  have k2 := h2
  have k3 := h3
  have lt2 : ∀ x ∈ p2, x.block < W.heap.size := by obtain ⟨m, hm⟩ := k2; exact DataW.trod_lt m _ _ _ hm
  have lt3 : ∀ x ∈ p3, x.block < W.heap.size := by obtain ⟨m, hm⟩ := k3; exact DataW.trod_lt m _ _ _ hm
  obtain ⟨fs, hF⟩ : ∃ fs, IsS W a2 len2 cap2 fs := by
    obtain ⟨fuel, hf⟩ := h2
    exact opened_s hf
  obtain ⟨ks, hK⟩ : ∃ ks, IsS W a3 len3 cap3 ks := by
    obtain ⟨fuel, hf⟩ := h3
    exact opened_s hf
  obtain ⟨s4, rfl, rfl, rfl, hs4⟩ := open_string Yba.underlying9 (hval 4 9 v4 rfl rfl) h4
  obtain ⟨i5, rfl, rfl, rfl, w5⟩ := open_int Yba.underlying5 (hval 5 5 v5 rfl rfl) h5
  have b5 := bounds_u8 w5
  clear hA0 hval0
  refine (law_any a0 a1 a2 a3 len2 cap2 len3 cap3 fs ks s4 i5 W hF hK b5).mono fun e W' ⟨he, bel⟩ => ?_
  subst he
  exact ⟨_, rfl, _, _, _, [], _, [], hW', trodAll_mk1 (shut_bool Yba.underlying4 _), (trodAll_cons_mk (shut_bool Yba.underlying4 _) (trodAll_cons_mk (shut_bool Yba.underlying4 _) (trodAll_cons_mk (Below.trod Yba.laidOut (by kernel_rfl) (of_decide_eq_true (by kernel_rfl)) k2 bel lt2) (trodAll_cons_mk (Below.trod Yba.laidOut (by kernel_rfl) (of_decide_eq_true (by kernel_rfl)) k3 bel lt3) (trodAll_cons_mk (shut_string Yba.underlying9 hs4) (trodAll_cons_mk (shut_int Yba.underlying5 w5) trodAll_mk0)))))), rfl, bel.frame _, fun h => by cases h⟩

theorem overC : Rows.lawS6207CWholeRow.holds Yba.pinned (OpenSpec.ofChange Rows.lawS6207CWholeSpec) :=
  OpenClaim.holds_of_wide 4 Yba.f4 rfl rfl rfl rfl rfl rfl rfl ⟨rfl, rfl, rfl, rfl, rfl⟩ rfl rfl rfl rfl rfl (by kernel_rfl) Yba.func4 (by kernel_rfl)
    (of_decide_eq_true (by kernel_rfl)) (by unfold Func.isWrapper; first | (rw [if_pos (by decide +kernel)]; kernel_rfl) | (rw [if_neg (by decide +kernel)]; exact ⟨rfl, rfl⟩))
    (fun os started H enc _ => liftedC os started H enc)

theorem provedC : Rows.LawS6207CWholeSaid := overC
end Go.Proofs.Ybulkdxng
