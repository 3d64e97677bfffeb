import Derived.Test.YbulkdxmsLib
namespace Go.Proofs.Ybulkdxms
open Go.RowKit

theorem Yba.info24 : (Yba.prog.info? 24).map (fun i => (i.zero, i.size, i.bytes)) = some (some (.int .u64 0), 1, 8) := by kernel_rfl
theorem Yba.info26 : (Yba.prog.info? 26).map (fun i => (i.zero, i.size, i.bytes)) = some (some (.agg #[.int .u64 0, .string ByteArray.empty, .bool false]), 3, 32) := by kernel_rfl
theorem Yba.size24 : (Yba.prog.info? 24).map (·.size) = some 1 := by kernel_rfl
theorem Yba.size26 : (Yba.prog.info? 26).map (·.size) = some 3 := by kernel_rfl

set_option maxHeartbeats 400000 in
theorem copyr_some (ad : Addr) (n cap : Nat) (cs : List Value) (w : World) (hn : cs.length = n) (hb : n ≤ 1048576)
   (hsrc : ∀ j v, cs[j]? = some v → w.cell? (ad.add j) = some v) (h1 : ∀ v ∈ cs, v.oneCell' = true) :
    Calls Yba.prog 5 #[.slice (some ad) n cap] w fun e w' => e = .returned (.slice (some ⟨w.heap.size, 0, none⟩) n n) ∧ w' = w.alloc (.cells cs.toArray 24) := by
  have hnil := fun (w : World) => Lib.run_eql_slice_nil (P := Yba.prog) w 23 24 (some ad) n cap 0 0 Yba.underlying23
  have hmk := run_make_n (P := Yba.prog) 23 24 _ _ _ Yba.underlying23 Yba.info24 n (by omega) (by omega)
  have hcp := run_copy_made (P := Yba.prog) w 23 23 3 24 Yba.underlying23 1 Yba.size24 n ad cap (madeCells (Value.int IntKind.u64 0).cells (n * 1)) cs (by omega) (by simp [size_madeCells]) hsrc h1
  generalize madeCells (Value.int IntKind.u64 0).cells (n * 1) = M at hmk hcp
  clear hsrc h1 hn
  go_enter Yba.func5, Yba.ntmps5
  go_wp2
  go_ret
  exact ⟨rfl, rfl⟩
set_option maxHeartbeats 400000 in
theorem copyr_none (w : World) :
    Calls Yba.prog 5 #[.slice none 0 0] w fun e w' => e = .returned (.slice none 0 0) ∧ w' = w := by
  have hnil := fun (w : World) => Lib.run_eql_slice_nil (P := Yba.prog) w 23 24 none 0 0 0 0 Yba.underlying23
  go_enter Yba.func5, Yba.ntmps5
  go_wp2
  go_ret
  exact ⟨rfl, rfl⟩
set_option maxHeartbeats 400000 in
theorem copym_some (ad : Addr) (n cap : Nat) (cs : List Value) (w : World) (hn : cs.length = n * 3) (hb : n ≤ 1048576)
   (hsrc : ∀ j v, cs[j]? = some v → w.cell? (ad.add j) = some v) (h1 : ∀ v ∈ cs, v.oneCell' = true) :
    Calls Yba.prog 4 #[.slice (some ad) n cap] w fun e w' => e = .returned (.slice (some ⟨w.heap.size, 0, none⟩) n n) ∧ w' = w.alloc (.cells cs.toArray 26) := by
  have hnil := fun (w : World) => Lib.run_eql_slice_nil (P := Yba.prog) w 22 26 (some ad) n cap 0 0 Yba.underlying22
  have hmk := run_make_n (P := Yba.prog) 22 26 _ _ _ Yba.underlying22 Yba.info26 n (by omega) (by omega)
  have hcp := run_copy_made (P := Yba.prog) w 22 22 3 26 Yba.underlying22 3 Yba.size26 n ad cap (madeCells (Value.agg #[.int .u64 0, .string ByteArray.empty, .bool false]).cells (n * 3)) cs (by omega) (by simp [size_madeCells]) hsrc h1
  generalize madeCells (Value.agg #[.int .u64 0, .string ByteArray.empty, .bool false]).cells (n * 3) = M at hmk hcp
  clear hsrc h1 hn
  go_enter Yba.func4, Yba.ntmps4
  go_wp2
  go_ret
  exact ⟨rfl, rfl⟩
set_option maxHeartbeats 400000 in
theorem copym_none (w : World) :
    Calls Yba.prog 4 #[.slice none 0 0] w fun e w' => e = .returned (.slice none 0 0) ∧ w' = w := by
  have hnil := fun (w : World) => Lib.run_eql_slice_nil (P := Yba.prog) w 22 26 none 0 0 0 0 Yba.underlying22
  go_enter Yba.func4, Yba.ntmps4
  go_wp2
  go_ret
  exact ⟨rfl, rfl⟩
end Go.Proofs.Ybulkdxms
