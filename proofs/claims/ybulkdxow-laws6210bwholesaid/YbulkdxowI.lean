import Derived.Test.YbulkdxowH
import Derived.Deep.RegionLaw
import Derived.Deep.RegionHeld3
namespace Go.Proofs.Ybulkdxow.B
open Go.RowKit
set_option linter.unusedVariables false

/-- the items' row while it is filled -/
def Items (w : World) (g n k : Nat) (ls : Nat → Int × Bool) : Prop :=
  ∃ cur : Array Value, w.heap[g]? = some (.cells cur 43 (0, 0)) ∧ cur.size = n ∧ ∀ i, i < k → ∃ p, cur[i]? = some (.pointer (some ⟨p, 0, none⟩)) ∧ LeafP w p (ls i)
theorem heap_setCell {w : World} {b o : Nat} {cs : Array Value} {t : TypeId} {fr : Nat × Nat} {v : Value} (h : w.heap[b]? = some (.cells cs t fr)) : (w.setCell ⟨b, o, none⟩ v).heap[b]? = some (.cells (cs.setIfInBounds o v) t fr) := by
  simp [World.setCell, Array.getElem?_modify, h]
theorem items_step {wr W : World} {g n k p : Nat} {ls : Nat → Int × Bool} {cur : Array Value} (hcur : wr.heap[g]? = some (.cells cur 43 (0, 0))) (hsz : cur.size = n) (hit : ∀ i, i < k → ∃ p, cur[i]? = some (.pointer (some ⟨p, 0, none⟩)) ∧ LeafP wr p (ls i)) (hk : k < n)
    (hW : W.heap[g]? = some (.cells (cur.setIfInBounds k (.pointer (some ⟨p, 0, none⟩))) 43 (0, 0))) (hL : LeafP W p (ls k)) (hold : ∀ j, j < wr.heap.size → j ≠ g → W.heap[j]? = wr.heap[j]?) : Items W g n (k + 1) ls := by
  refine ⟨_, hW, by simp [hsz], fun i hi => ?_⟩
  by_cases e : i = k
  · subst e
    exact ⟨p, by simp [hsz, hk], hL⟩
  · obtain ⟨q, h1, h2⟩ := hit i (by omega)
    refine ⟨q, by rw [Array.getElem?_setIfInBounds, if_neg (fun h => e h.symm)]; exact h1, ?_⟩
    unfold LeafP at h2 ⊢
    have hlt := (Array.getElem?_eq_some_iff.1 h2).1
    have hne : q ≠ g := by rintro rfl; rw [hcur] at h2; simp at h2
    rw [hold q hlt hne]
    exact h2

theorem run_make_0n {P : Program} (t e : TypeId) (z : Value) (size bytes : Nat) (ht : P.underlying t = some (.slice e)) (hi : (P.info? e).map (fun i => (i.zero, i.size, i.bytes)) = some (some z, size, bytes))
    (n : Nat) (hb : bytes * n ≤ 281474976710656) (h63 : n ≤ 9223372036854775807) (w : World) :
    (Instr.makeSlice t (.int .i64 0) (.int .i64 (n : Int))).run P w = .ok (.slice (some ⟨w.heap.size, 0, none⟩) 0 n) (w.alloc (.cells (madeCells z.cells (n * size)) e)) := by
  obtain ⟨i, h1, h2, h3, h4⟩ := info_parts hi
  have hb' : (i.bytes : Int) * (n : Int) ≤ 281474976710656 := by
    rw [h4]
    have h : ((bytes * n : Nat) : Int) ≤ 281474976710656 := by omega
    rwa [Int.natCast_mul] at h
  have hr := run_make (P := P) w t e i z ht h1 h2 .i64 .i64 0 n (by omega) (by omega) hb' (by omega)
  simpa [h3] using hr

theorem keep_leaf {wr : World} {x y : Value} (t : TypeId) (B C : Obj) (o : Nat) (vs : List Value) {g : Nat} (hg : g < wr.heap.size) :
    (((((wr.alloc (.cells #[x, y] t)).alloc B).alloc C).drew).setCells g o vs).cell? ⟨wr.heap.size, 0, none⟩ = some x ∧ (((((wr.alloc (.cells #[x, y] t)).alloc B).alloc C).drew).setCells g o vs).cell? ⟨wr.heap.size, 1, none⟩ = some y := by
  have h : ∀ j, (((((wr.alloc (.cells #[x, y] t)).alloc B).alloc C).drew).setCells g o vs).cell? ⟨wr.heap.size, j, none⟩ = #[x, y][j]? := by
    intro j
    rw [World.cell?_setCells_out g vs o _ ⟨wr.heap.size, j, none⟩ (by intro h; simp at h; omega)]
    show (((wr.alloc (.cells #[x, y] t)).alloc B).alloc C).cell? ⟨wr.heap.size, j, none⟩ = _
    rw [World.cell?_alloc_lt _ _ _ (by simp; omega), World.cell?_alloc_lt _ _ _ (by simp), World.cell?_alloc_new]
  exact ⟨h 0, h 1⟩
theorem new_three (wr : World) (A B : Obj) (v : Value) (t : TypeId) : ∀ (j : Nat) (u : Value), [v][j]? = some u → ((((wr.alloc A).alloc B).alloc (.cells #[v] t)).drew).cell? ((⟨wr.heap.size + 2, 0, none⟩ : Addr).add j) = some u := by
  intro j u hj
  match j, hj with
  | 0, hj =>
    simp at hj
    subst hj
    show (((wr.alloc A).alloc B).alloc (.cells #[v] t)).cell? ⟨wr.heap.size + 2, 0, none⟩ = _
    have h := World.cell?_alloc_new (w := (wr.alloc A).alloc B) #[v] t 0
    simp only [World.size_alloc] at h
    rw [h]
    rfl

theorem gate_step {w wr : World} {A C : Obj} {n k : Nat} {ls : Nat → Int × Bool} {cur : Array Value} (hbel : Below w.heap.size w wr) (hcur : wr.heap[w.heap.size + 1]? = some (.cells cur 43 (0, 0))) (hsz : cur.size = n) (hit : ∀ i, i < k → ∃ p, cur[i]? = some (.pointer (some ⟨p, 0, none⟩)) ∧ LeafP wr p (ls i)) (hk : k < n) :
    Below w.heap.size w (((((wr.alloc A).alloc (.cells #[.string (nameB (ls k).1), .bool (ls k).2, .int .i64 0, .slice none 0 0] 65)).alloc C).drew).setCells (w.heap.size + 1) k [.pointer (some ⟨wr.heap.size + 1, 0, none⟩)]) ∧
    (∀ j, j < wr.heap.size → j ≠ w.heap.size + 1 → (((((wr.alloc A).alloc (.cells #[.string (nameB (ls k).1), .bool (ls k).2, .int .i64 0, .slice none 0 0] 65)).alloc C).drew).setCells (w.heap.size + 1) k [.pointer (some ⟨wr.heap.size + 1, 0, none⟩)]).heap[j]? = wr.heap[j]?) ∧
    Items (((((wr.alloc A).alloc (.cells #[.string (nameB (ls k).1), .bool (ls k).2, .int .i64 0, .slice none 0 0] 65)).alloc C).drew).setCells (w.heap.size + 1) k [.pointer (some ⟨wr.heap.size + 1, 0, none⟩)]) (w.heap.size + 1) n (k + 1) ls := by
  have hg1 : w.heap.size + 1 < wr.heap.size := (Array.getElem?_eq_some_iff.1 hcur).1
  have hold : ∀ j, j < wr.heap.size → j ≠ w.heap.size + 1 → (((((wr.alloc A).alloc (.cells #[.string (nameB (ls k).1), .bool (ls k).2, .int .i64 0, .slice none 0 0] 65)).alloc C).drew).setCells (w.heap.size + 1) k [.pointer (some ⟨wr.heap.size + 1, 0, none⟩)]).heap[j]? = wr.heap[j]? := by
    intro j hj hne
    show (((((wr.alloc A).alloc _).alloc C).drew).setCell ⟨w.heap.size + 1, k, none⟩ _).heap[j]? = _
    rw [Below.heap_setCell _ _ _ _ (by exact hne)]
    show (((wr.alloc A).alloc _).alloc C).heap[j]? = _
    rw [heap_alloc_old _ _ (by simp; omega), heap_alloc_old _ _ (by simp; omega), heap_alloc_old _ _ hj]
  refine ⟨?_, hold, ?_⟩
  · have h := (((hbel.alloc hbel.size A).alloc (by simp; have := hbel.size; omega) (.cells #[.string (nameB (ls k).1), .bool (ls k).2, .int .i64 0, .slice none 0 0] 65)).alloc (by simp; have := hbel.size; omega) C).drew
    exact h.setCell (p := ⟨w.heap.size + 1, k, none⟩) (by simp) _
  · refine items_step (p := wr.heap.size + 1) hcur hsz hit hk ?_ ?_ hold
    · show (((((wr.alloc A).alloc _).alloc C).drew).setCell ⟨w.heap.size + 1, k, none⟩ _).heap[w.heap.size + 1]? = _
      refine heap_setCell ?_
      show (((wr.alloc A).alloc _).alloc C).heap[w.heap.size + 1]? = _
      rw [heap_alloc_old _ _ (by simp; omega), heap_alloc_old _ _ (by simp; omega), heap_alloc_old _ _ hg1]
      exact hcur
    · unfold LeafP
      show (((((wr.alloc A).alloc _).alloc C).drew).setCell ⟨w.heap.size + 1, k, none⟩ _).heap[wr.heap.size + 1]? = _
      rw [Below.heap_setCell _ _ _ _ (by simp; omega)]
      show (((wr.alloc A).alloc _).alloc C).heap[wr.heap.size + 1]? = _
      rw [heap_alloc_old _ _ (by simp)]
      exact heap_two wr A _

set_option maxHeartbeats 1000000 in
theorem build_gate (K : Int) (b o n c : Nat) (ls : Nat → Int × Bool) (w : World) (hpos : 0 < n) (hlt : b < w.heap.size)
    (hc : ∀ i, i < n → w.cell? ⟨b, o + i * 2, none⟩ = some (.int .u8 (ls i).1) ∧ w.cell? ⟨b, o + i * 2 + 1, none⟩ = some (.bool (ls i).2) ∧ 0 ≤ (ls i).1 ∧ (ls i).1 ≤ 255)
    (hK : 0 ≤ K ∧ K ≤ 255) (hn : n ≤ 1048576) :
    Calls Yba.prog 10 #[.agg #[.bool true, .int .u8 K, .slice (some ⟨b, o, none⟩) n c]] w fun e w' => ∃ p, e = .returned (.pointer (some ⟨p, 0, none⟩)) ∧ GateP w' p K n ls ∧ w.heap.size ≤ p ∧ Below w.heap.size w w' := by
  obtain ⟨hK0, hK1⟩ := hK
  have hn0 : ((n : Int) == 0) = false := by simp; omega
  have hmk := run_make_0n (P := Yba.prog) 63 43 _ _ _ Yba.underlying63 Yba.info43 n (by omega) (by omega)
  obtain ⟨M, hM⟩ : ∃ M, M = madeCells (Value.pointer none).cells (n * 1) := ⟨_, rfl⟩
  rw [← hM] at hmk
  have hMs : M.size = n := by rw [hM, size_madeCells]; omega
  clear hM
  obtain ⟨i0, hi, hz0, hz1, hz2⟩ := info_parts Yba.info43
  go_enter Yba.func10, Yba.ntmps10
  go_wp2_with fail
  have hst : ((w.alloc (.cells #[.bool true, .int .u8 K, .slice (some ⟨b, o, none⟩) n c] 41)).alloc (.cells M 43)).heap[w.heap.size]? = some (.cells #[.bool true, .int .u8 K, .slice (some ⟨b, o, none⟩) n c] 41 (0, 0)) := by
    rw [heap_alloc_old _ _ (by simp)]; exact heap_alloc_new w _
  have hst2 := heap_two w (.cells #[.bool true, .int .u8 K, .slice (some ⟨b, o, none⟩) n c] 41) (.cells M 43)
  go_loopw [5, 6] (fun v i wr => ∃ k : Nat, k ≤ n ∧ i = .int .i64 k ∧ v = .slice (some ⟨w.heap.size + 1, 0, none⟩) k n ∧ Below w.heap.size w wr ∧ wr.heap[w.heap.size]? = some (.cells #[.bool true, .int .u8 K, .slice (some ⟨b, o, none⟩) n c] 41 (0, 0)) ∧ Items wr (w.heap.size + 1) n k ls) (fun _ i _ => n - (intOf i).toNat)
  case atStart => exact ⟨0, Nat.zero_le _, rfl, rfl, below_two w _ _, hst, M, hst2, hMs, by omega⟩
  case round =>
    obtain ⟨k, hk, rfl, rfl, hbel, hblk, cur, hcur, hcsz, hit⟩ := hrel
    obtain ⟨c0, c1, c2, hlt2⟩ := cells3 hblk
    have HB : Hid (wr.heap[w.heap.size]? = some (.cells #[.bool true, .int .u8 K, .slice (some ⟨b, o, none⟩) n c] 41 (0, 0))) := hblk
    have HC : Hid (wr.heap[w.heap.size + 1]? = some (.cells cur 43 (0, 0))) := hcur
    have HI : Hid (∀ i, i < k → ∃ p, cur[i]? = some (.pointer (some ⟨p, 0, none⟩)) ∧ LeafP wr p (ls i)) := hit
    have hg1 : w.heap.size + 1 < wr.heap.size := (Array.getElem?_eq_some_iff.1 hcur).1
    clear hblk hst hst2 hmk hcur hit
    by_cases hkn : k < n
    · obtain ⟨q0, q1, z0, z1⟩ := hc k hkn
      rw [← hbel.cell (p := ⟨b, _, none⟩) hlt] at q0 q1
      have hkn' : (k : Int) < (n : Int) := by omega
      have hltb : b < wr.heap.size := by have := hbel.size; omega
      clear hc
      have hsp1 : ∀ A B C : Obj, ((((wr.alloc A).alloc B).alloc C).cell? ⟨w.heap.size + 1, k, none⟩).isSome = true ∧ (((wr.alloc A).alloc B).alloc C).frozen? ⟨w.heap.size + 1, k, none⟩ = false := by
        intro A B C
        have h3 : (((wr.alloc A).alloc B).alloc C).heap[w.heap.size + 1]? = some (.cells cur 43 (0, 0)) := by
          rw [heap_alloc_old _ _ (by simp; omega), heap_alloc_old _ _ (by simp; omega), heap_alloc_old _ _ (by omega)]; exact HC.out
        simp [World.cell?, World.frozen?, h3, hcsz, hkn]
      have HSP : Hid (∀ A B C : Obj, ((((wr.alloc A).alloc B).alloc C).cell? ⟨w.heap.size + 1, k, none⟩).isSome = true ∧ (((wr.alloc A).alloc B).alloc C).frozen? ⟨w.heap.size + 1, k, none⟩ = false) := hsp1
      clear hsp1
      go_wp2_with fail
      go_region_held3 (fun w' => w'.cell? ⟨wr.heap.size, 0, none⟩ = some (.int .u8 (ls k).1) ∧ w'.cell? ⟨wr.heap.size, 1, none⟩ = some (.bool (ls k).2)) (first | exact keep_leaf _ _ _ _ _ hg1 | go_keep) (first | (go_at_call 19; refine (name_any _ _ z0 z1).mono ?_; rintro e w' ⟨rfl, rfl⟩) | (refine step_append_room rfl (.tmp 41) (.tmp 49) 63 rfl 43 i0 1 Yba.underlying63 hi hz1 (w.heap.size + 1) 0 k n (by rfl) ⟨wr.heap.size + 2, 0, none⟩ 1 1 [.pointer (some ⟨wr.heap.size + 1, 0, none⟩)] (by rfl) rfl (new_three _ _ _ _ _) (by intro u hu; simp at hu; subst hu; rfl) (by omega) (fun j hj => by have h0 : j = 0 := (by simpa using hj); subst h0; rw [show 0 + k * 1 + 0 = k by omega]; exact HSP.out _ _ _) ?_))
      go_wp2_with fail
      go_roundw
      case rel =>
        have hS := gate_step (A := Obj.cells #[Value.int IntKind.u8 (ls k).fst, Value.bool (ls k).snd] 60) (C := Obj.cells #[Value.pointer (some { block := wr.heap.size + 1, off := 0 })] 43) hbel HC.out hcsz HI.out hkn
        refine ⟨k + 1, by omega, by go_num, rfl, hS.1, ?_, hS.2.2⟩
        rw [hS.2.1 _ hlt2 (by omega)]
        exact HB.out
      case measure => simp [intOf]; omega
    · have hkn2 : k = n := by omega
      subst hkn2
      clear hc
      go_wp2_with fail
      go_ret
      refine ⟨wr.heap.size, rfl, ?_, hbel.size, hbel.alloc hbel.size _⟩
      have hfn : ∃ ps : Nat → Nat, ∀ i, i < k → cur[i]? = some (.pointer (some ⟨ps i, 0, none⟩)) ∧ LeafP wr (ps i) (ls i) := by
        refine ⟨fun i => if h : i < k then (HI.out i h).choose else 0, fun i hi => ?_⟩
        simp only [dif_pos hi]
        exact (HI.out i hi).choose_spec
      obtain ⟨ps, hps⟩ := hfn
      refine ⟨w.heap.size + 1, k, ps, cur, heap_alloc_new wr _, by rw [heap_alloc_old _ _ hg1]; exact HC.out, fun i hi => ⟨(hps i hi).1, ?_⟩⟩
      have h2 := (hps i hi).2
      unfold LeafP at h2 ⊢
      rw [heap_alloc_old _ _ (Array.getElem?_eq_some_iff.1 h2).1]
      exact h2
end Go.Proofs.Ybulkdxow.B
