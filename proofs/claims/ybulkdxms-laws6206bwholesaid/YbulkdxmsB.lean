import Derived.Test.YbulkdxmsA
namespace Go.Proofs.Ybulkdxms
open Go.RowKit

set_option maxHeartbeats 400000 in
theorem samer_zero (x y : Option Addr) (c0 c1 : Nat) (w : World) (hxy : x.isNone = y.isNone) :
    Calls Yba.prog 8 #[.slice x 0 c0, .slice y 0 c1] w fun e w' => e = .returned (.bool true) ∧ ∃ k, w' = w.drewN k := by
  have hn0 := fun (w : World) => Lib.run_eql_slice_nil (P := Yba.prog) w 23 24 x 0 c0 0 0 Yba.underlying23
  have hn1 := fun (w : World) => Lib.run_eql_slice_nil (P := Yba.prog) w 23 24 y 0 c1 0 0 Yba.underlying23
  rw [hxy] at hn0
  clear hxy
  go_enter Yba.func8, Yba.ntmps8
  go_wp2
  refine wp_loop_rounds 1 ?_
  rw [rounds_succ]
  go_wp2
  go_ret
  exact ⟨rfl, 0, rfl⟩

set_option maxHeartbeats 400000 in
theorem samer_pos (b0 o0 b1 o1 n c0 c1 : Nat) (zs : Nat → Int) (w : World) (hn : n ≤ 1048576)
    (hx : ∀ i, i < n → w.cell? ⟨b0, o0 + i, none⟩ = some (.int .u64 (zs i))) (hy : ∀ i, i < n → w.cell? ⟨b1, o1 + i, none⟩ = some (.int .u64 (zs i))) :
    Calls Yba.prog 8 #[.slice (some ⟨b0, o0, none⟩) n c0, .slice (some ⟨b1, o1, none⟩) n c1] w fun e w' => e = .returned (.bool true) ∧ ∃ k, w' = w.drewN k := by
  have hn0 := fun (w : World) => Lib.run_eql_slice_nil (P := Yba.prog) w 23 24 (some ⟨b0, o0, none⟩) n c0 0 0 Yba.underlying23
  have hn1 := fun (w : World) => Lib.run_eql_slice_nil (P := Yba.prog) w 23 24 (some ⟨b1, o1, none⟩) n c1 0 0 Yba.underlying23
  go_enter Yba.func8, Yba.ntmps8
  go_wp2
  clear hn0 hn1
  go_loopw [20] (fun i wr => ∃ k m : Nat, k ≤ n ∧ i = .int .i64 k ∧ wr = w.drewN m) (fun i _ => n - (intOf i).toNat)
  case atStart => exact ⟨0, 0, Nat.zero_le _, rfl, rfl⟩
  case round =>
    obtain ⟨k, m, hk, rfl, rfl⟩ := hrel
    by_cases hlt : k < n
    · have h0 := hx k hlt
      have h1 := hy k hlt
      have hlt' : (k : Int) < (n : Int) := by omega
      clear hx hy
      go_wp2
      go_quiet (fail)
      go_wp2
      go_roundw
      case rel => exact ⟨k + 1, m + nq, by omega, by go_num, rfl⟩
      case measure => simp [intOf]; omega
    · go_wp2
      go_ret
      exact ⟨rfl, m, rfl⟩

set_option maxHeartbeats 400000 in
theorem samem_zero (x y : Option Addr) (c0 c1 : Nat) (w : World) (hxy : x.isNone = y.isNone) :
    Calls Yba.prog 7 #[.slice x 0 c0, .slice y 0 c1] w fun e w' => e = .returned (.bool true) ∧ ∃ k, w' = w.drewN k := by
  have hn0 := fun (w : World) => Lib.run_eql_slice_nil (P := Yba.prog) w 22 26 x 0 c0 0 0 Yba.underlying22
  have hn1 := fun (w : World) => Lib.run_eql_slice_nil (P := Yba.prog) w 22 26 y 0 c1 0 0 Yba.underlying22
  rw [hxy] at hn0
  clear hxy
  go_enter Yba.func7, Yba.ntmps7
  go_wp2
  refine wp_loop_rounds 1 ?_
  rw [rounds_succ]
  go_wp2
  go_ret
  exact ⟨rfl, 0, rfl⟩

set_option maxHeartbeats 400000 in
theorem samem_pos (b0 o0 b1 o1 n c0 c1 : Nat) (ms : Nat → Int × ByteArray × Bool) (w : World) (hn : n ≤ 1048576)
    (hx : ∀ i, i < n → w.cell? ⟨b0, o0 + i * 3, none⟩ = some (.int .u64 (ms i).1) ∧ w.cell? ⟨b0, o0 + i * 3 + 1, none⟩ = some (.string (ms i).2.1) ∧ w.cell? ⟨b0, o0 + i * 3 + 2, none⟩ = some (.bool (ms i).2.2))
    (hy : ∀ i, i < n → w.cell? ⟨b1, o1 + i * 3, none⟩ = some (.int .u64 (ms i).1) ∧ w.cell? ⟨b1, o1 + i * 3 + 1, none⟩ = some (.string (ms i).2.1) ∧ w.cell? ⟨b1, o1 + i * 3 + 2, none⟩ = some (.bool (ms i).2.2)) :
    Calls Yba.prog 7 #[.slice (some ⟨b0, o0, none⟩) n c0, .slice (some ⟨b1, o1, none⟩) n c1] w fun e w' => e = .returned (.bool true) ∧ ∃ k, w' = w.drewN k := by
  have hn0 := fun (w : World) => Lib.run_eql_slice_nil (P := Yba.prog) w 22 26 (some ⟨b0, o0, none⟩) n c0 0 0 Yba.underlying22
  have hn1 := fun (w : World) => Lib.run_eql_slice_nil (P := Yba.prog) w 22 26 (some ⟨b1, o1, none⟩) n c1 0 0 Yba.underlying22
  go_enter Yba.func7, Yba.ntmps7
  go_wp2
  clear hn0 hn1
  go_loopw [20] (fun i wr => ∃ k m : Nat, k ≤ n ∧ i = .int .i64 k ∧ wr = w.drewN m) (fun i _ => n - (intOf i).toNat)
  case atStart => exact ⟨0, 0, Nat.zero_le _, rfl, rfl⟩
  case round =>
    obtain ⟨k, m, hk, rfl, rfl⟩ := hrel
    by_cases hlt : k < n
    · obtain ⟨h0, h1, h2⟩ := hx k hlt
      obtain ⟨g0, g1, g2⟩ := hy k hlt
      generalize ms k = q at *
      obtain ⟨q0, q1, q2⟩ := q
      have hlt' : (k : Int) < (n : Int) := by omega
      clear hx hy
      go_wp2
      go_quiet (fail)
      go_wp2
      go_roundw
      case rel => exact ⟨k + 1, m + nq, by omega, by go_num, rfl⟩
      case measure => simp [intOf]; omega
    · go_wp2
      go_ret
      exact ⟨rfl, m, rfl⟩
end Go.Proofs.Ybulkdxms
