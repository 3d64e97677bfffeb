import Derived.Test.YbulkdxmsB
namespace Go.Proofs.Ybulkdxms
open Go.RowKit

set_option maxHeartbeats 400000 in
theorem member_zero (x y : Option Addr) (c m d : Nat) (id : Int) (w : World) :
    Calls Yba.prog 6 #[.agg #[.slice x 0 c, .slice y m d], .int .u64 id] w fun e w' => e = .returned (.tuple #[.agg #[.int .u64 0, .string ⟨#[]⟩, .bool false], .bool false]) ∧ Below w.heap.size w w' := by
  go_enter Yba.func6, Yba.ntmps6
  go_wp2
  refine wp_loop_rounds 1 ?_
  rw [rounds_succ]
  go_wp2
  exact bodyPost_ret (v := .tuple #[.agg #[.int .u64 0, .string ⟨#[]⟩, .bool false], .bool false]) (by simp [results, Yba.results6, go_sem]) rfl ⟨rfl, ((Below.refl _ _).alloc (Nat.le_refl _) _).alloc (by simp) _⟩

theorem cells3 {w : World} {b : Nat} {x y z : Value} {t : TypeId} (h : w.heap[b]? = some (.cells #[x, y, z] t (0, 0))) :
    w.cell? ⟨b, 0, none⟩ = some x ∧ w.cell? ⟨b, 1, none⟩ = some y ∧ w.cell? ⟨b, 2, none⟩ = some z ∧ w.frozen? ⟨b, 0, none⟩ = false ∧ w.frozen? ⟨b, 1, none⟩ = false ∧ w.frozen? ⟨b, 2, none⟩ = false := by
  simp [World.cell?, World.frozen?, h]

set_option maxHeartbeats 400000 in
theorem member_pos (b o n c m d : Nat) (y : Option Addr) (id : Int) (ms : Nat → Int × ByteArray × Bool) (w : World) (hn : n ≤ 1048576) (hb : b < w.heap.size)
    (hx : ∀ i, i < n → w.cell? ⟨b, o + i * 3, none⟩ = some (.int .u64 (ms i).1) ∧ w.cell? ⟨b, o + i * 3 + 1, none⟩ = some (.string (ms i).2.1) ∧ w.cell? ⟨b, o + i * 3 + 2, none⟩ = some (.bool (ms i).2.2)) :
    Calls Yba.prog 6 #[.agg #[.slice (some ⟨b, o, none⟩) n c, .slice y m d], .int .u64 id] w fun e w' => ((∃ j, j < n ∧ (ms j).1 = id ∧ (∀ i, i < j → (ms i).1 ≠ id) ∧ e = .returned (.tuple #[.agg #[.int .u64 (ms j).1, .string (ms j).2.1, .bool (ms j).2.2], .bool true])) ∨
       ((∀ i, i < n → (ms i).1 ≠ id) ∧ e = .returned (.tuple #[.agg #[.int .u64 0, .string ⟨#[]⟩, .bool false], .bool false]))) ∧ Below w.heap.size w w' := by
  go_enter Yba.func6, Yba.ntmps6
  go_wp2
  go_loopw [11] (fun i wr => ∃ k : Nat, k ≤ n ∧ i = .int .i64 k ∧ (∀ j, j < k → (ms j).1 ≠ id) ∧ Below w.heap.size w wr ∧ wr.heap[w.heap.size + 1]? = some (.cells #[.int .u64 0, .string ⟨#[]⟩, .bool false] 26 (0, 0)) ∧ w.heap.size + 1 < wr.heap.size) (fun i _ => n - (intOf i).toNat)
  case atStart =>
    refine ⟨0, Nat.zero_le _, rfl, by omega, ((Below.refl _ _).alloc (Nat.le_refl _) _).alloc (by simp) _, ?_, by simp⟩
    have h := heap_alloc_new (w.alloc (Obj.cells #[Value.slice (some { block := b, off := o }) n c, Value.slice y m d] 30)) (Obj.cells #[Value.int IntKind.u64 0, Value.string { data := #[] }, Value.bool false] 26)
    rwa [World.size_alloc] at h
  case round =>
    obtain ⟨k, hk, rfl, hid, hbel, hblk, hsz⟩ := hrel
    obtain ⟨c0, c1, c2, f0, f1, f2⟩ := cells3 hblk
    have HB : Hid (wr.heap[w.heap.size + 1]? = some (.cells #[.int .u64 0, .string ⟨#[]⟩, .bool false] 26 (0, 0))) := hblk
    have HX : Hid (∀ j, j < k → (ms j).1 ≠ id) := hid
    clear hblk hid
    by_cases hlt : k < n
    · obtain ⟨h0, h1, h2⟩ := hx k hlt
      rw [← hbel.cell hb] at h0 h1 h2
      clear hx
      have hbr : b < wr.heap.size := by have := hbel.size; omega
      by_cases hq : ((ms k).1 == id) = true
      · go_wp2
        refine bodyPost_ret (v := .tuple #[.agg #[.int .u64 (ms k).1, .string (ms k).2.1, .bool (ms k).2.2], .bool true]) (by simp [results, Yba.results6, go_sem, c0, c1, c2, hsz]) rfl ⟨.inl ⟨k, hlt, by simpa using hq, HX.out, rfl⟩, ?_⟩
        exact (((hbel.setCell (Nat.le_succ _) _).setCell (Nat.le_succ _) _).setCell (Nat.le_succ _) _).alloc (by have := hbel.size; simp [World.setCell]; omega) _
      · go_wp2
        go_roundw
        case rel =>
          refine ⟨k + 1, by omega, by go_num, ?_, hbel.alloc (by have := hbel.size; omega) _, ?_, by simp; omega⟩
          · intro j hj
            by_cases e : j = k
            · subst e; simpa using hq
            · exact HX.out j (by omega)
          · rw [Below.heap_alloc _ _ _ hsz]; exact HB.out
        case measure => simp [intOf]; omega
    · go_wp2
      refine bodyPost_ret (v := .tuple #[.agg #[.int .u64 0, .string ⟨#[]⟩, .bool false], .bool false]) (by simp [results, Yba.results6, go_sem, c0, c1, c2]) rfl ⟨.inr ⟨fun i hi => HX.out i (by omega), rfl⟩, ?_⟩
      exact ((hbel.setCell (Nat.le_succ _) _).setCell (Nat.le_succ _) _).setCell (Nat.le_succ _) _
end Go.Proofs.Ybulkdxms
