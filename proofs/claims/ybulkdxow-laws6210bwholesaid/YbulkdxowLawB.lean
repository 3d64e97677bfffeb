import Derived.Test.YbulkdxowK
import Derived.ProofKit
import Derived.OpenShut
import Derived.ShutString
import Derived.ChangeOld
import Derived.SizedLaws
import Derived.Deep.Strs
import Derived.Deep.Slices
namespace Go.Proofs.Ybulkdxow
open Go.ChangeShapes Go.WideShapes Go.ChangeAt Go.RowKit Go.Deep
open Go.ChangeMaps (open_string shut_string)
set_option linter.unusedVariables false

theorem Yba.own : ownKnob Yba.prog.godebug = none := by kernel_rfl
theorem Yba.laidOut : laidOutB Yba.prog = true := by kernel_rfl
theorem Yba.cells41 : Yba.prog.cellsOf 41 = 3 := by kernel_rfl
theorem Yba.cells60 : Yba.prog.cellsOf 60 = 2 := by kernel_rfl
theorem Yba.cells39 : Yba.prog.cellsOf 39 = 1 := by kernel_rfl
theorem Yba.cells5 : Yba.prog.cellsOf 5 = 1 := by kernel_rfl
theorem Yba.cells4 : Yba.prog.cellsOf 4 = 1 := by kernel_rfl
theorem Yba.bytes41 : Yba.prog.bytesOf 41 = 32 := by kernel_rfl
theorem Yba.bytes60 : Yba.prog.bytesOf 60 = 2 := by kernel_rfl

theorem choose_fn {α : Type} (d : α) {n : Nat} {P : Nat → α → Prop} (h : ∀ i, i < n → ∃ m, P i m) : ∃ f : Nat → α, ∀ i, i < n → P i (f i) := by
  refine ⟨fun i => if hi : i < n then (h i hi).choose else d, fun i hi => ?_⟩
  show P i (if hi : i < n then (h i hi).choose else d)
  rw [dif_pos hi]
  exact (h i hi).choose_spec

theorem weights_of_mem {H : Type} {P : Program} {e : TypeId} {d : DataW H} {m : Nat} : ∀ {l : List (DataW H)}, d ∈ l → m ∈ DataW.weights P e d → m ∈ DataW.weightsAll P e l
  | [], h, _ => by cases h
  | a :: l, h, hm => by
    simp only [DataW.weightsAll, List.mem_append]
    rcases List.mem_cons.1 h with rfl | h
    · exact .inl hm
    · exact .inr (weights_of_mem h hm)

theorem law_any (X : Option Addr) (N C : Nat) (R : Nat → B.RD) (app rej : Int) (w : World) (hR : B.IsRules w X N R) (hN2 : N ≤ 140737488355328) (ha : 0 ≤ app ∧ app ≤ 255) (hr : 0 ≤ rej ∧ rej ≤ 255) :
    Calls Yba.prog 4 #[.slice X N C, .int .u8 app, .int .u8 rej] w fun e w' => e = .returned (.bool true) ∧ Below w.heap.size w w' := by
  by_cases h : N ≤ 65536
  · exact B.law_few X N C R app rej w hR h ha.1 ha.2 hr.1 hr.2
  · exact B.law_many X N C R app rej w hR (by omega) hN2

theorem opened_l {H : Type} {enc : TypeId × Value → H} {W : World} {a0 : Option Addr} {len cap : Nat} {d : DataW H} {p : List MemPlace} {fuel : Nat}
    (hf : DataW.trod enc Yba.prog W 0 (fun _ => true) true fuel 39 [.slice a0 len cap] = some (d, p)) :
    (∃ ls, B.IsL W a0 len ls) ∧ (d = .nil ∧ len = 0 ∨ ∃ elems spare, d = .slice elems spare ∧ elems.length = len) := by
  rcases open_slice Yba.underlying39 hf with ⟨hcs, hx⟩ | ⟨a, l, c, m, n, D, Pl, hcs, _, hl, hm, hmm, hx, hel⟩
  · simp at hcs
    obtain ⟨rfl, rfl, rfl⟩ := hcs
    simp only [Prod.mk.injEq] at hx
    exact ⟨⟨fun _ => (0, false), .inl rfl⟩, .inl ⟨hx.1, rfl⟩⟩
  · simp at hcs
    obtain ⟨rfl, rfl, rfl⟩ := hcs
    simp only [Prod.mk.injEq] at hx
    refine ⟨?_, .inr ⟨_, _, hx.1, by simp⟩⟩
    simp only [if_true] at hmm
    subst hmm
    by_cases h0 : len = 0
    · exact ⟨fun _ => (0, false), .inl h0⟩
    · have key : ∀ i, i < len → ∃ q : Int × Bool, W.cell? ((a.add (i * 2)).add 0) = some (.int .u8 q.1) ∧ W.cell? ((a.add (i * 2)).add 1) = some (.bool q.2) ∧ 0 ≤ q.1 ∧ q.1 ≤ 255 := by
        intro i hi
        obtain ⟨cs', hc, ht⟩ := hel i (by omega)
        rw [Yba.cells60] at hc
        obtain ⟨y0, y1, k, _, hlen, t0, t1⟩ := trod_struct2 Yba.underlying60 ht
        rw [Yba.cells60] at hlen
        obtain ⟨u0, u1, rfl⟩ : ∃ u0 u1, cs' = [u0, u1] := by
          match cs', hlen with
          | [u0, u1], _ => exact ⟨u0, u1, rfl⟩
        obtain ⟨q0, e0, _, hw0⟩ := DataW.trod_int Yba.underlying5 t0
        obtain ⟨q1, e1, _⟩ := DataW.trod_bool Yba.underlying4 t1
        simp [Yba.cells5, Yba.cells4] at e0 e1
        subst e0 e1
        obtain ⟨_, _, hcell⟩ := World.cells?_some hc
        have hb := bounds_u8 hw0
        exact ⟨(q0, q1), by simpa using hcell 0 (by omega), by simpa using hcell 1 (by omega), hb.1, hb.2⟩
      obtain ⟨ms, hms⟩ := choose_fn ((0 : Int), false) key
      obtain ⟨b, off, spot⟩ := a
      have hspot : spot = none := by
        have := (hms 0 (by omega)).1
        simpa [Addr.add] using World.cell?_spot this
      subst hspot
      refine ⟨ms, .inr ⟨b, off, rfl, by omega, ?_, fun i hi => ?_⟩⟩
      · have := World.block_lt_of_cell? W _ (hms 0 (by omega)).1
        simpa [Addr.add_lit] using this
      · have := hms i hi
        simpa [Addr.add_lit] using this

def rd0 : B.RD := ⟨false, 0, none, 0, 0, fun _ => (0, false)⟩

theorem opened_rules {H : Type} {enc : TypeId × Value → H} {W : World} {a0 : Option Addr} {len cap : Nat} {d : DataW H} {p : List MemPlace} {fuel : Nat}
    (hf : DataW.trod enc Yba.prog W 0 (fun _ => true) true fuel 38 [.slice a0 len cap] = some (d, p)) (hw : ∀ m, m ∈ DataW.weights Yba.prog 38 d → m ≤ reachBytes) :
    (∃ R, B.IsRules W a0 len R) ∧ (d = .nil ∧ len = 0 ∨ ∃ elems spare, d = .slice elems spare ∧ elems.length = len) := by
  rcases open_slice Yba.underlying38 hf with ⟨hcs, hx⟩ | ⟨a, l, c, m, n, D, Pl, hcs, _, hl, hm, hmm, hx, hel⟩
  · simp at hcs
    obtain ⟨rfl, rfl, rfl⟩ := hcs
    simp only [Prod.mk.injEq] at hx
    exact ⟨⟨fun _ => rd0, .inl rfl⟩, .inl ⟨hx.1, rfl⟩⟩
  · simp at hcs
    obtain ⟨rfl, rfl, rfl⟩ := hcs
    simp only [Prod.mk.injEq] at hx
    refine ⟨?_, .inr ⟨_, _, hx.1, by simp⟩⟩
    simp only [if_true] at hmm
    subst hmm
    obtain ⟨rfl, _⟩ := hx
    by_cases h0 : len = 0
    · exact ⟨fun _ => rd0, .inl h0⟩
    · have key : ∀ i, i < len → ∃ q : B.RD, W.cell? ((a.add (i * 3)).add 0) = some (.bool q.g) ∧ W.cell? ((a.add (i * 3)).add 1) = some (.int .u8 q.K) ∧ W.cell? ((a.add (i * 3)).add 2) = some (.slice q.x q.n q.c) ∧ (0 ≤ q.K ∧ q.K ≤ 255) ∧ q.n ≤ 70368744177664 ∧ B.IsL W q.x q.n q.ls := by
        intro i hi
        obtain ⟨cs', hc, ht⟩ := hel i (by omega)
        rw [Yba.cells41] at hc
        obtain ⟨y0, y1, y2, k, hD, hlen, t0, t1, t2⟩ := trod_struct3 Yba.underlying41 ht
        rw [Yba.cells41] at hlen
        obtain ⟨u0, u1, u2, rfl⟩ : ∃ u0 u1 u2, cs' = [u0, u1, u2] := by
          match cs', hlen with
          | [u0, u1, u2], _ => exact ⟨u0, u1, u2, rfl⟩
        obtain ⟨q0, e0, _⟩ := DataW.trod_bool Yba.underlying4 t0
        obtain ⟨q1, e1, _, hw1⟩ := DataW.trod_int Yba.underlying5 t1
        simp [Yba.cells39, Yba.cells5, Yba.cells4] at e0 e1 t2
        subst e0 e1
        obtain ⟨_, _, hcell⟩ := World.cells?_some hc
        have hb := bounds_u8 hw1
        obtain ⟨x, nn, cc, rfl⟩ : ∃ x nn cc, u2 = .slice x nn cc := by
          rcases open_slice Yba.underlying39 t2 with ⟨hcs, _⟩ | ⟨_, _, _, _, _, _, _, hcs, _⟩ <;> · simp at hcs; exact ⟨_, _, _, hcs⟩
        obtain ⟨⟨ls, hls⟩, hd⟩ := opened_l (d := y2.1) (p := y2.2) t2
        simp only [Prod.mk.injEq] at hD
        have hn : nn ≤ 70368744177664 := by
          rcases hd with ⟨_, h⟩ | ⟨el, sp, he, h⟩
          · omega
          · have : (el.length + sp.length) * Yba.prog.bytesOf 60 ≤ reachBytes := by
              refine hw _ ?_
              simp only [DataW.weights, Yba.underlying38, List.mem_cons, List.mem_append]
              refine .inr (.inl (weights_of_mem (d := D i) (List.mem_map.2 ⟨i, List.mem_range.2 hi, rfl⟩) ?_))
              rw [hD.1]
              simp [DataW.weights, DataW.weightsEach, Yba.underlying41, he, Yba.underlying39]
            rw [Yba.bytes60] at this
            simp only [reachBytes] at this
            omega
        exact ⟨⟨q0, q1, x, nn, cc, ls⟩, by simpa using hcell 0 (by omega), by simpa using hcell 1 (by omega), by simpa using hcell 2 (by omega), hb, hn, hls⟩
      obtain ⟨ms, hms⟩ := choose_fn rd0 key
      obtain ⟨b, off, spot⟩ := a
      have hspot : spot = none := by
        have := (hms 0 (by omega)).1
        simpa [Addr.add] using World.cell?_spot this
      subst hspot
      refine ⟨ms, .inr ⟨b, off, rfl, by omega, ?_, fun i hi => ?_⟩⟩
      · have := World.block_lt_of_cell? W _ (hms 0 (by omega)).1
        simpa [Addr.add_lit] using this
      · have := hms i hi
        simpa [Addr.add_lit] using this

set_option maxRecDepth 100000 in
theorem liftedB (os : Os) (started : os.Started) (H : Type) (enc : TypeId × Value → H) :
    ReturnsInHanded {} Yba.checked os 4 .any (Rows.lawS6210BWholeSpec.pre6 enc Yba.prog Yba.f4 Rows.lawS6210BWholeRow.domain false) (Rows.lawS6210BWholeSpec.post enc Yba.prog Yba.f4 false true false false) := by
  refine returnsInHanded_of_change_sized (C := Yba.checked) Yba.own started (by kernel_rfl) Yba.func4
    (ChangeSpec.witness6 (enc := enc) (C := Yba.checked) false ⟨#[], #[.slice none 0 0, .int .u8 0, .int .u8 0], []⟩ 8 (by kernel_rfl) (by kernel_rfl) (by kernel_rfl) (by kernel_rfl)) ?_
  intro W base args ds gs before hval0 hW hcnd hsz0 _
  have hval : ∀ (j : Nat) t v, Yba.f4.params[j]? = some t → args[j]? = some v → Value.okWide Yba.prog W .any base t v := hval0
  have hsz : (DataW.weightsEach Yba.prog (Yba.f4.params.toList ++ Rows.lawS6210BWholeSpec.plain.varTypes Yba.prog) (ds ++ gs)).all (· ≤ reachBytes) = true := hsz0
  have hW' := hW
  obtain ⟨p, q, hA0, hV, rfl, hfz, hnd⟩ := hW
  have hA : DataW.TrodAll enc Yba.prog W 0 (fun _ => true) true Yba.f4.params.toList args.toList ds p := hA0
  rw [Yba.params4] at hA hval hsz
  obtain ⟨v0, vs0, d0, ds0, p0, q0, hargs, rfl, rfl, h0, r0⟩ := trodAll_cons hA
  obtain ⟨v1, vs1, d1, ds1, p1, q1, rfl, rfl, rfl, h1, r1⟩ := trodAll_cons r0
  obtain ⟨v2, vs2, d2, ds2, p2, q2, rfl, rfl, rfl, h2, r2⟩ := trodAll_cons r1
  obtain ⟨rfl, rfl, rfl⟩ := trodAll_nil r2
  obtain rfl : args = #[v0, v1, v2] := by cases args; simp_all
  obtain ⟨rfl, rfl⟩ := trodVars_none hV
  obtain ⟨a0, len0, cap0, rfl⟩ := okWide_slice Yba.underlying38 (hval 0 38 v0 rfl rfl)
  have k0 := h0
  have lt0 : ∀ x ∈ p0, x.block < W.heap.size := by obtain ⟨m, hm⟩ := k0; exact DataW.trod_lt m _ _ _ hm
  have hw0 : ∀ m, m ∈ DataW.weights Yba.prog 38 d0 → m ≤ reachBytes := fun m hm => by
    have := List.all_eq_true.1 hsz m (DataW.weights_mem_each (j := 0) (t := 38) rfl rfl m hm)
    simpa using this
  obtain ⟨⟨R, hR⟩, l0⟩ : (∃ R, B.IsRules W a0 len0 R) ∧ (d0 = .nil ∧ len0 = 0 ∨ ∃ elems spare, d0 = .slice elems spare ∧ elems.length = len0) := by
    obtain ⟨fuel, hf⟩ := h0
    exact opened_rules hf hw0
  obtain ⟨i1, rfl, rfl, rfl, w1⟩ := open_int Yba.underlying5 (hval 1 5 v1 rfl rfl) h1
  obtain ⟨i2, rfl, rfl, rfl, w2⟩ := open_int Yba.underlying5 (hval 2 5 v2 rfl rfl) h2
  have b0 : len0 ≤ 140737488351232 := by
    rcases l0 with ⟨_, h⟩ | ⟨el, sp, rfl, h⟩
    · omega
    · have := sized_slice hsz (j := 0) (t := 38) (e := 41) rfl rfl Yba.underlying38
      rw [Yba.bytes41] at this
      simp only [reachBytes] at this
      omega
  have b1 := bounds_u8 w1
  have b2 := bounds_u8 w2
  clear hA0 hval0
  refine (law_any a0 len0 cap0 R i1 i2 W hR (by omega) b1 b2).mono fun e W' ⟨he, bel⟩ => ?_
  subst he
  exact ⟨_, rfl, _, _, _, [], _, [], hW', trodAll_mk1 (shut_bool Yba.underlying4 _), (trodAll_cons_mk (Below.trod Yba.laidOut (by kernel_rfl) (of_decide_eq_true (by kernel_rfl)) k0 bel lt0) (trodAll_cons_mk (shut_int Yba.underlying5 w1) (trodAll_cons_mk (shut_int Yba.underlying5 w2) trodAll_mk0))), rfl, bel.frame _, fun h => by cases h⟩

theorem overB : Rows.lawS6210BWholeRow.holds Yba.pinned (OpenSpec.ofChange Rows.lawS6210BWholeSpec) :=
  OpenClaim.holds_of_wide 4 Yba.f4 rfl rfl rfl rfl rfl rfl rfl ⟨rfl, rfl, rfl, rfl, rfl⟩ rfl rfl rfl rfl rfl (by kernel_rfl) Yba.func4 (by kernel_rfl)
    (of_decide_eq_true (by kernel_rfl)) (by unfold Func.isWrapper; first | (rw [if_pos (by decide +kernel)]; kernel_rfl) | (rw [if_neg (by decide +kernel)]; exact ⟨rfl, rfl⟩))
    (fun os started H enc _ => liftedB os started H enc)

theorem provedB : Rows.LawS6210BWholeSaid := overB
end Go.Proofs.Ybulkdxow
