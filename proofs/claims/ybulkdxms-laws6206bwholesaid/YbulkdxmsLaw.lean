import Derived.Test.YbulkdxmsE
import Derived.ProofKit
import Derived.OpenShut
import Derived.ShutString
import Derived.ChangeOld
import Derived.SizedLaws
import Derived.Deep.Strs
import Derived.Deep.Slices
namespace Go.Proofs.Ybulkdxms
open Go.ChangeShapes Go.WideShapes Go.ChangeAt Go.RowKit Go.Deep
open Go.ChangeMaps (open_string shut_string)
set_option linter.unusedVariables false

theorem Yba.own : ownKnob Yba.prog.godebug = none := by kernel_rfl
theorem Yba.laidOut : laidOutB Yba.prog = true := by kernel_rfl
theorem Yba.cells26 : Yba.prog.cellsOf 26 = 3 := by kernel_rfl
theorem Yba.cells24 : Yba.prog.cellsOf 24 = 1 := by kernel_rfl
theorem Yba.cells9 : Yba.prog.cellsOf 9 = 1 := by kernel_rfl
theorem Yba.cells4 : Yba.prog.cellsOf 4 = 1 := by kernel_rfl
theorem Yba.bytes26 : Yba.prog.bytesOf 26 = 32 := by kernel_rfl
theorem Yba.bytes24 : Yba.prog.bytesOf 24 = 8 := by kernel_rfl

theorem choose_fn {α : Type} [Inhabited α] {n : Nat} {P : Nat → α → Prop} (h : ∀ i, i < n → ∃ m, P i m) : ∃ f : Nat → α, ∀ i, i < n → P i (f i) := by
  refine ⟨fun i => if hi : i < n then (h i hi).choose else default, fun i hi => ?_⟩
  show P i (if hi : i < n then (h i hi).choose else default)
  rw [dif_pos hi]
  exact (h i hi).choose_spec

theorem opened_m {H : Type} {enc : TypeId × Value → H} {W : World} {a0 : Option Addr} {len cap : Nat} {d : DataW H} {p : List MemPlace} {fuel : Nat}
    (hf : DataW.trod enc Yba.prog W 0 (fun _ => true) true fuel 22 [.slice a0 len cap] = some (d, p)) :
    (∃ ms, IsM W a0 len cap ms) ∧ (d = .nil ∧ len = 0 ∨ ∃ elems spare, d = .slice elems spare ∧ elems.length = len) := by
  rcases open_slice Yba.underlying22 hf with ⟨hcs, hx⟩ | ⟨a, l, c, m, n, D, Pl, hcs, _, hl, hm, hmm, hx, hel⟩
  · simp at hcs
    obtain ⟨rfl, rfl, rfl⟩ := hcs
    simp only [Prod.mk.injEq] at hx
    exact ⟨⟨fun _ => default, .inl ⟨rfl, rfl, rfl⟩⟩, .inl ⟨hx.1, rfl⟩⟩
  · simp at hcs
    obtain ⟨rfl, rfl, rfl⟩ := hcs
    simp only [Prod.mk.injEq] at hx
    refine ⟨?_, .inr ⟨_, _, hx.1, by simp⟩⟩
    simp only [if_true] at hmm
    subst hmm
    by_cases h0 : len = 0
    · exact ⟨fun _ => default, .inr (.inl ⟨_, rfl, h0⟩)⟩
    · have key : ∀ i, i < len → ∃ q : Int × ByteArray × Bool, W.cell? ((a.add (i * 3)).add 0) = some (.int .u64 q.1) ∧ W.cell? ((a.add (i * 3)).add 1) = some (.string q.2.1) ∧ W.cell? ((a.add (i * 3)).add 2) = some (.bool q.2.2) := by
        intro i hi
        obtain ⟨cs', hc, ht⟩ := hel i (by omega)
        rw [Yba.cells26] at hc
        obtain ⟨y0, y1, y2, k, _, hlen, t0, t1, t2⟩ := trod_struct3 Yba.underlying26 ht
        rw [Yba.cells26] at hlen
        obtain ⟨u0, u1, u2, rfl⟩ : ∃ u0 u1 u2, cs' = [u0, u1, u2] := by
          match cs', hlen with
          | [u0, u1, u2], _ => exact ⟨u0, u1, u2, rfl⟩
        obtain ⟨q0, e0, _, _⟩ := DataW.trod_int Yba.underlying24 t0
        obtain ⟨q1, e1, _, _⟩ := DataW.trod_string Yba.underlying9 t1
        obtain ⟨q2, e2, _⟩ := DataW.trod_bool Yba.underlying4 t2
        simp [Yba.cells24, Yba.cells9, Yba.cells4] at e0 e1 e2
        subst e0 e1 e2
        obtain ⟨_, _, hcell⟩ := World.cells?_some hc
        exact ⟨(q0, q1, q2), by simpa using hcell 0 (by omega), by simpa using hcell 1 (by omega), by simpa using hcell 2 (by omega)⟩
      obtain ⟨ms, hms⟩ := choose_fn key
      obtain ⟨b, off, spot⟩ := a
      have hspot : spot = none := by
        have := (hms 0 (by omega)).1
        simpa [Addr.add] using World.cell?_spot this
      subst hspot
      refine ⟨ms, .inr (.inr ⟨b, off, rfl, by omega, ?_, fun i hi => ?_⟩)⟩
      · have := World.block_lt_of_cell? W _ (hms 0 (by omega)).1
        simpa [Addr.add_lit] using this
      · have := hms i hi
        simpa [Addr.add_lit] using this

theorem opened_r {H : Type} {enc : TypeId × Value → H} {W : World} {a0 : Option Addr} {len cap : Nat} {d : DataW H} {p : List MemPlace} {fuel : Nat}
    (hf : DataW.trod enc Yba.prog W 0 (fun _ => true) true fuel 23 [.slice a0 len cap] = some (d, p)) :
    (∃ zs, IsR W a0 len cap zs) ∧ (d = .nil ∧ len = 0 ∨ ∃ elems spare, d = .slice elems spare ∧ elems.length = len) := by
  rcases open_slice Yba.underlying23 hf with ⟨hcs, hx⟩ | ⟨a, l, c, m, n, D, Pl, hcs, _, hl, hm, hmm, hx, hel⟩
  · simp at hcs
    obtain ⟨rfl, rfl, rfl⟩ := hcs
    simp only [Prod.mk.injEq] at hx
    exact ⟨⟨fun _ => default, .inl ⟨rfl, rfl, rfl⟩⟩, .inl ⟨hx.1, rfl⟩⟩
  · simp at hcs
    obtain ⟨rfl, rfl, rfl⟩ := hcs
    simp only [Prod.mk.injEq] at hx
    refine ⟨?_, .inr ⟨_, _, hx.1, by simp⟩⟩
    simp only [if_true] at hmm
    subst hmm
    by_cases h0 : len = 0
    · exact ⟨fun _ => default, .inr (.inl ⟨_, rfl, h0⟩)⟩
    · have key : ∀ i, i < len → ∃ q : Int, W.cell? (a.add (i * 1)) = some (.int .u64 q) := by
        intro i hi
        obtain ⟨cs', hc, ht⟩ := hel i (by omega)
        rw [Yba.cells24] at hc
        obtain ⟨q0, e0, _, _⟩ := DataW.trod_int Yba.underlying24 ht
        subst e0
        exact ⟨q0, cell_of_cells?_one hc⟩
      obtain ⟨zs, hzs⟩ := choose_fn key
      obtain ⟨b, off, spot⟩ := a
      have hspot : spot = none := by
        have := hzs 0 (by omega)
        simpa [Addr.add] using World.cell?_spot this
      subst hspot
      refine ⟨zs, .inr (.inr ⟨b, off, rfl, by omega, ?_, fun i hi => ?_⟩)⟩
      · have := World.block_lt_of_cell? W _ (hzs 0 (by omega))
        simpa [Addr.add_lit] using this
      · have := hzs i hi
        simpa [Addr.add_lit] using this

set_option maxRecDepth 100000 in
theorem lifted (os : Os) (started : os.Started) (H : Type) (enc : TypeId × Value → H) :
    ReturnsInHanded {} Yba.checked os 3 .any (Rows.lawS6206BWholeSpec.pre6 enc Yba.prog Yba.f3 Rows.lawS6206BWholeRow.domain false) (Rows.lawS6206BWholeSpec.post enc Yba.prog Yba.f3 false true false false) := by
  refine returnsInHanded_of_change_sized (C := Yba.checked) Yba.own started (by kernel_rfl) Yba.func3
    (ChangeSpec.witness6 (enc := enc) (C := Yba.checked) false ⟨#[], #[.slice none 0 0, .slice none 0 0, .int .u64 0, .int .u8 0], []⟩ 8 (by kernel_rfl) (by kernel_rfl) (by kernel_rfl) (by kernel_rfl)) ?_
  intro W base args ds gs before hval0 hW hcnd hsz0 _
  have hval : ∀ (j : Nat) t v, Yba.f3.params[j]? = some t → args[j]? = some v → Value.okWide Yba.prog W .any base t v := hval0
  have hsz : (DataW.weightsEach Yba.prog (Yba.f3.params.toList ++ Rows.lawS6206BWholeSpec.plain.varTypes Yba.prog) (ds ++ gs)).all (· ≤ reachBytes) = true := hsz0
  have hW' := hW
  obtain ⟨p, q, hA0, hV, rfl, hfz, hnd⟩ := hW
  have hA : DataW.TrodAll enc Yba.prog W 0 (fun _ => true) true Yba.f3.params.toList args.toList ds p := hA0
  rw [Yba.params3] at hA hval hsz
  obtain ⟨v0, vs0, d0, ds0, p0, q0, hargs, rfl, rfl, h0, r0⟩ := trodAll_cons hA
  obtain ⟨v1, vs1, d1, ds1, p1, q1, rfl, rfl, rfl, h1, r1⟩ := trodAll_cons r0
  obtain ⟨v2, vs2, d2, ds2, p2, q2, rfl, rfl, rfl, h2, r2⟩ := trodAll_cons r1
  obtain ⟨v3, vs3, d3, ds3, p3, q3, rfl, rfl, rfl, h3, r3⟩ := trodAll_cons r2
  obtain ⟨rfl, rfl, rfl⟩ := trodAll_nil r3
  obtain rfl : args = #[v0, v1, v2, v3] := by cases args; simp_all
  obtain ⟨rfl, rfl⟩ := trodVars_none hV
  obtain ⟨a0, len0, cap0, rfl⟩ := okWide_slice Yba.underlying22 (hval 0 22 v0 rfl rfl)
  obtain ⟨a1, len1, cap1, rfl⟩ := okWide_slice Yba.underlying23 (hval 1 23 v1 rfl rfl)
  have k0 := h0
  have k1 := h1
  have lt0 : ∀ x ∈ p0, x.block < W.heap.size := by obtain ⟨m, hm⟩ := k0; exact DataW.trod_lt m _ _ _ hm
  have lt1 : ∀ x ∈ p1, x.block < W.heap.size := by obtain ⟨m, hm⟩ := k1; exact DataW.trod_lt m _ _ _ hm
  obtain ⟨⟨ms, hM⟩, l0⟩ : (∃ ms, IsM W a0 len0 cap0 ms) ∧ (d0 = .nil ∧ len0 = 0 ∨ ∃ elems spare, d0 = .slice elems spare ∧ elems.length = len0) := by
    obtain ⟨fuel, hf⟩ := h0
    exact opened_m hf
  obtain ⟨⟨zs, hR⟩, l1⟩ : (∃ zs, IsR W a1 len1 cap1 zs) ∧ (d1 = .nil ∧ len1 = 0 ∨ ∃ elems spare, d1 = .slice elems spare ∧ elems.length = len1) := by
    obtain ⟨fuel, hf⟩ := h1
    exact opened_r hf
  obtain ⟨i2, rfl, rfl, rfl, w2⟩ := open_int Yba.underlying24 (hval 2 24 v2 rfl rfl) h2
  obtain ⟨i3, rfl, rfl, rfl, w3⟩ := open_int Yba.underlying5 (hval 3 5 v3 rfl rfl) h3
  have b0 : len0 ≤ 140737488351232 := by
    rcases l0 with ⟨_, h⟩ | ⟨el, sp, rfl, h⟩
    · omega
    · have := sized_slice hsz (j := 0) (t := 22) (e := 26) rfl rfl Yba.underlying22
      rw [Yba.bytes26] at this
      simp only [reachBytes] at this
      omega
  have b1 : len1 ≤ 140737488351232 := by
    rcases l1 with ⟨_, h⟩ | ⟨el, sp, rfl, h⟩
    · omega
    · have := sized_slice hsz (j := 1) (t := 23) (e := 24) rfl rfl Yba.underlying23
      rw [Yba.bytes24] at this
      simp only [reachBytes] at this
      omega
  have b3 := bounds_u8 w3
  clear hA0 hval0
  refine (law_any a0 a1 len0 cap0 len1 cap1 i2 i3 ms zs W hM hR b3 b0 b1).mono fun e W' ⟨he, bel⟩ => ?_
  subst he
  exact ⟨_, rfl, _, _, _, [], _, [], hW', trodAll_mk1 (shut_bool Yba.underlying4 _), (trodAll_cons_mk (Below.trod Yba.laidOut (by kernel_rfl) (of_decide_eq_true (by kernel_rfl)) k0 bel lt0) (trodAll_cons_mk (Below.trod Yba.laidOut (by kernel_rfl) (of_decide_eq_true (by kernel_rfl)) k1 bel lt1) (trodAll_cons_mk (shut_int Yba.underlying24 w2) (trodAll_cons_mk (shut_int Yba.underlying5 w3) trodAll_mk0)))), rfl, bel.frame _, fun h => by cases h⟩

theorem over : Rows.lawS6206BWholeRow.holds Yba.pinned (OpenSpec.ofChange Rows.lawS6206BWholeSpec) :=
  OpenClaim.holds_of_wide 3 Yba.f3 rfl rfl rfl rfl rfl rfl rfl ⟨rfl, rfl, rfl, rfl, rfl⟩ rfl rfl rfl rfl rfl (by kernel_rfl) Yba.func3 (by kernel_rfl)
    (of_decide_eq_true (by kernel_rfl)) (by unfold Func.isWrapper; first | (rw [if_pos (by decide +kernel)]; kernel_rfl) | (rw [if_neg (by decide +kernel)]; exact ⟨rfl, rfl⟩))
    (fun os started H enc _ => lifted os started H enc)

theorem proved : Rows.LawS6206BWholeSaid := over
end Go.Proofs.Ybulkdxms
