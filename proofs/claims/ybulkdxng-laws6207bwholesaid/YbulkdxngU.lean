import Derived.Test.YbulkdxngS
import Derived.Laws.CopyRow
namespace Go.Proofs.Ybulkdxng.D
open Go.RowKit
set_option linter.unusedVariables false

theorem Yba.size3 : (Yba.prog.info? 3).map (·.size) = some 1 := by kernel_rfl
theorem heap_setRow_ne (w : World) (g k : Nat) (cs : Array Value) (h : k ≠ g) : (w.setRow g cs).heap[k]? = w.heap[k]? := by
  have h' : ¬ g = k := fun e => h e.symm
  simp [World.setRow, Array.getElem?_modify, h']
theorem heap_setRow {w : World} {g : Nat} {cur cs : Array Value} {t : TypeId} {fr : Nat × Nat} (h : w.heap[g]? = some (.cells cur t fr)) : (w.setRow g cs).heap[g]? = some (.cells cs t fr) := by
  simp [World.setRow, Array.getElem?_modify, h]
section
variable {B : Blk} {N : Net} {lev lev' : Nat → Int} {l : Nat → Int} {nx : Nat → Nat} {q q' : Value} {w w' w'' : World} {top : Nat}
theorem FW.copied (h : FW B N lev l nx q w) (hd : B.Dis) : FW B N lev l N.first q (w.setRow B.bn (rowN N.V N.first)) :=
  ⟨by rw [heap_setRow_ne _ _ _ _ hd.n1]; exact h.f, by rw [heap_setRow_ne _ _ _ _ hd.n2]; exact h.first, by rw [heap_setRow_ne _ _ _ _ hd.n3]; exact h.dest, by rw [heap_setRow_ne _ _ _ _ (Ne.symm hd.l6)]; exact h.left, by rw [heap_setRow_ne _ _ _ _ hd.n4]; exact h.back, by rw [heap_setRow_ne _ _ _ _ hd.n5]; exact h.level, heap_setRow h.next⟩
theorem FW.run_copy (h : FW B N lev l nx q w) (ty : TypeId) : (Builtin.copy_ #[26, 26] ty #[.slice (some ⟨B.bn, 0, none⟩) N.V N.V, .slice (some ⟨B.bf, 0, none⟩) (N.V + 1) (N.V + 1)]).run Yba.prog w = .ok (goInt N.V) (w.setRow B.bn (rowN N.V N.first)) := by
  have hr := run_copy_row (P := Yba.prog) w 26 26 ty 3 B.bn 0 N.V N.V ⟨B.bf, 0, none⟩ (N.V + 1) (N.V + 1) _ 3 (rowN N.V N.first).toList Yba.underlying26 Yba.size3 h.next
    (by simp [rowN, size_row])
    (by
      intro j v hj
      have hjl : j < N.V := by
        have := (List.getElem?_eq_some_iff.1 hj).1
        simpa [rowN, size_row] using this
      rw [Array.getElem?_toList] at hj
      unfold rowN at hj
      rw [get_row _ hjl] at hj
      simp at hj
      subst hj
      rw [Addr.add_lit, Nat.zero_add]
      exact cell_rowN h.first (by omega))
    (by simp [rowN, size_row])
    (by
      intro v hv
      simp only [rowN, row, List.mem_map] at hv
      obtain ⟨i, _, rfl⟩ := hv
      rfl)
  rw [hr, List.drop_of_length_le (by simp [rowN, size_row])]
  simp [rowN, size_row]
/-- what maximise may change, below top -/
structure KeepM (B : Blk) (top : Nat) (w w' : World) : Prop where
  os : w'.os = w.os
  tape : w'.tape = w.tape
  output : w'.output = w.output
  size : w.heap.size ≤ w'.heap.size
  block : ∀ k, k < top → k ≠ B.F → k ≠ B.bv → k ≠ B.bl → k ≠ B.bn → w'.heap[k]? = w.heap[k]?
theorem KeepM.refl : KeepM B top w w := ⟨rfl, rfl, rfl, Nat.le_refl _, fun _ _ _ _ _ _ => rfl⟩
theorem KeepM.trans (h : KeepM B top w w') (k : KeepM B top w' w'') : KeepM B top w w'' := ⟨k.os.trans h.os, k.tape.trans h.tape, k.output.trans h.output, Nat.le_trans h.size k.size, fun i h0 h1 h2 h3 h4 => (k.block i h0 h1 h2 h3 h4).trans (h.block i h0 h1 h2 h3 h4)⟩
theorem KeepR.m (h : KeepR B top w w') : KeepM B top w w' := ⟨h.os, h.tape, h.output, h.size, fun i h0 h1 h2 _ _ => h.block i h0 h1 h2⟩
theorem Same.m (h : Same B w w') : KeepM B top w w' := ⟨h.os, h.tape, h.output, Nat.le_of_eq h.size, fun i _ _ _ h3 h4 => h.block i h3 h4⟩
theorem KeepM.copied (h : KeepM B top w w') (cs : Array Value) : KeepM B top w (w'.setRow B.bn cs) := h.trans ⟨rfl, rfl, rfl, by simp [World.setRow], fun i _ _ _ _ h4 => heap_setRow_ne _ _ _ _ h4⟩
theorem KeepM.drew1 (h : KeepM B top w w') : KeepM B top w w'.drew := h.trans ⟨rfl, rfl, rfl, Nat.le_refl _, fun _ _ _ _ _ _ => rfl⟩
end

/-- s has gone from the source to the sink -/
def Total (N : Net) (l : Nat → Int) (s : Int) : Prop := ∀ (om ph : Nat → Int), (∀ e, e < N.E → om e - om (N.back e) = ph (N.own e) - ph (N.to e)) → sumE N.E (fun e => om e * l e) = sumE N.E (fun e => om e * N.orig e) - s * (ph 0 - ph N.sink)

theorem ownsRow_same {B : Blk} {top : Nat} {w w' : World} {q : Value} {n : Nat} {xs : List Value} (h : w.ownsRow top 3 1 q n xs) (hB : B.Lt top) (hs : Same B w w') : w'.ownsRow top 3 1 q n xs := by
  refine ⟨h.1, ?_⟩
  rcases h.2 with h2 | ⟨g, cap, cur, rfl, h1, h2, h3⟩
  · exact .inl h2
  · exact .inr ⟨g, cap, cur, rfl, h1, by rw [hs.block g (by have := hB.bl; omega) (by have := hB.bn; omega)]; exact h2, h3⟩
theorem ownsRow_copied {B : Blk} {top : Nat} {w : World} {q : Value} {n : Nat} {xs : List Value} (h : w.ownsRow top 3 1 q n xs) (hB : B.Lt top) (cs : Array Value) : (w.setRow B.bn cs).ownsRow top 3 1 q n xs := by
  refine ⟨h.1, ?_⟩
  rcases h.2 with h2 | ⟨g, cap, cur, rfl, h1, h2, h3⟩
  · exact .inl h2
  · exact .inr ⟨g, cap, cur, rfl, h1, by rw [heap_setRow_ne _ _ _ _ (by have := hB.bn; omega)]; exact h2, h3⟩

set_option maxRecDepth 100000 in
set_option maxHeartbeats 1600000 in
theorem maximise_any {B : Blk} {N : Net} {top : Nat} (hN : N.OK) (hd : B.Dis) (hB : B.Lt top) (hV : N.V ≤ 900) (hE : N.E ≤ 1000000)
    (hbd : ∀ l s, Val N l → Total N l s → s ≤ 1000000000000000)
    (lev : Nat → Int) (nx : Nat → Nat) (w : World) (hfw : FW B N lev N.orig nx (.slice none 0 0) w) (htop : top ≤ w.heap.size) :
    Calls Yba.prog 8 #[.pointer (some ⟨B.F, 0, none⟩)] w fun e w' => ∃ s lev' l' nx' q', e = .returned (.int .i64 s) ∧ FW B N lev' l' nx' q' w' ∧ Val N l' ∧ Total N l' s ∧ Found N l' lev' false ∧ KeepM B top w w' := by
  have hV2 := hN.two
  have HF : Hid (FW B N lev N.orig nx (.slice none 0 0) w) := hfw
  have HBD : Hid (∀ l s, Val N l → Total N l s → s ≤ 1000000000000000) := hbd
  clear hfw hbd
  go_enter Yba.func8, Yba.ntmps8
  go_wp2_with fail
  go_loopw [3] (fun sv wr => ∃ (s : Int) (lev l : Nat → Int) (nx : Nat → Nat) (q : Value) (n : Nat) (xs : List Value), sv = .int .i64 s ∧ 0 ≤ s ∧ FW B N lev l nx q wr ∧ Val N l ∧ Total N l s ∧ wr.ownsRow top 3 1 q n xs ∧ KeepM B top w wr) (fun sv _ => (1000000000000000 - intOf sv).toNat)
  case atStart => exact ⟨0, lev, N.orig, nx, _, 0, [], rfl, Int.le_refl _, HF.out, Val.orig, fun om ph _ => by simp, ⟨rfl, .inl ⟨rfl, rfl⟩⟩, KeepM.refl⟩
  case round =>
    obtain ⟨s, lv, l, nx1, q, n, xs, rfl, hs0, hfw, hval, htot, hown, hkeep⟩ := hrel
    have hsb := HBD.out l s hval htot
    have hszr : top ≤ wr.heap.size := Nat.le_trans htop hkeep.size
    have HFR : Hid (FW B N lv l nx1 q wr) := hfw
    have HVAL : Hid (Val N l) := hval
    have HTOT : Hid (Total N l s) := htot
    have HOW : Hid (wr.ownsRow top 3 1 q n xs) := hown
    have HKM : Hid (KeepM B top w wr) := hkeep
    clear hfw hval htot hown hkeep
    go_wp2_with fail
    refine (reach_any hN hd hB hV hE lv l nx1 q n xs wr HFR.out HVAL.out HOW.out hszr).mono ?_
    rintro e w1 ⟨b, lev1, q1, n1, xs1, rfl, hfw1, hfound, hown1, hkr1⟩
    have hkm1 := HKM.out.trans hkr1.m
    cases b with
    | false =>
      have HF1 : Hid (FW B N lev1 l nx1 q1 w1) := hfw1
      have HFO : Hid (Found N l lev1 false) := hfound
      have HK1 : Hid (KeepM B top w w1) := hkm1
      clear hfw1 hfound hown1 hkr1 hkm1
      go_wp2_with fail
      go_ret
      exact ⟨s, lev1, l, nx1, q1, rfl, HF1.out, HVAL.out, HTOT.out, HFO.out, HK1.out⟩
    | true =>
      have hcp := hfw1.drew1.run_copy
      obtain ⟨f0, f1, f2, f3, f4, f5, f6⟩ := hfw1.cells
      have HF1 : Hid (FW B N lev1 l nx1 q1 w1) := hfw1
      have HFO : Hid (Found N l lev1 true) := hfound
      have HK1 : Hid (KeepM B top w w1) := hkm1
      have HO1 : Hid (w1.ownsRow top 3 1 q1 n1 xs1) := hown1
      clear hfw1 hfound hown1 hkr1 hkm1
      go_wp2_with fail
      go_region
      have hfw2 := HF1.out.drew1.copied hd
      have hkm2 := HK1.out.drew1.copied (rowN N.V N.first)
      have hown2 := ownsRow_copied (w := w1.drew) HO1.out.drew hB (rowN N.V N.first)
      clear hcp f0 f1 f2 f3 f4 f5 f6
      generalize w1.drew.setRow B.bn (rowN N.V N.first) = w2 at *
      have HK2 : Hid (KeepM B top w w2) := hkm2
      have HO2 : Hid (w2.ownsRow top 3 1 q1 n1 xs1) := hown2
      have HF2 : Hid (FW B N lev1 l N.first q1 w2) := hfw2
      clear hfw2 hkm2 hown2
      go_wp2_with fail
      refine (send_any hN hd (by omega) hE HFO.out.bounds _ 0 9223372036854775807 l N.first w2 rfl (by omega) (by omega) (by omega) HF2.out ⟨HVAL.out, fun v hv => Nat.le_refl _, fun v hv => hN.mono v hv, fun v e hv h1 h2 => by omega⟩).mono ?_
      rintro e w3 ⟨s3, l3, n3, rfl, hfw3, hsame3, hst3, hsent3, hle3, hdead3⟩
      have hs3 := hsent3.nonneg
      have htot3 : Total N l3 (s + s3) := by
        intro om ph hom
        have h1 := HTOT.out om ph hom
        have h2 := hsent3.sum om ph hom
        rw [h2, h1, Int.add_mul]
        omega
      have hb3 := HBD.out l3 (s + s3) hst3.val htot3
      have hpos : 1 ≤ s3 := by
        by_cases h0 : s3 = 0
        · exfalso
          refine hdead3 (by omega) ?_
          have hz := hsent3.zero h0
          exact Path.mono (l := l3) (l' := l) (fun e he _ => by rw [hz e he]; exact Int.le_refl _) (HFO.out.yes rfl)
        · omega
      have HF3 : Hid (FW B N lev1 l3 n3 q1 w3) := hfw3
      have HV3 : Hid (Val N l3) := hst3.val
      have HT3 : Hid (Total N l3 (s + s3)) := htot3
      have HO3 : Hid (w3.ownsRow top 3 1 q1 n1 xs1) := ownsRow_same HO2.out hB hsame3
      have HK3 : Hid (KeepM B top w w3) := HK2.out.trans hsame3.m
      clear hfw3 hsame3 hst3 hsent3 hle3 hdead3 htot3
      go_wp2_with fail
      go_roundw
      case rel => exact ⟨s + s3, lev1, l3, n3, q1, n1, xs1, rfl, by omega, HF3.out, HV3.out, HT3.out, HO3.out, HK3.out⟩
      case measure => simp only [intOf]; omega
end Go.Proofs.Ybulkdxng.D
