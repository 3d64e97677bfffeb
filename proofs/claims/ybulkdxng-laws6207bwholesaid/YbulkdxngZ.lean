import Derived.Test.YbulkdxngW
import Derived.Lib.SliceRun
namespace Go.Proofs.Ybulkdxng.D
open Go.RowKit
set_option linter.unusedVariables false
theorem Yba.infoI2 : (Yba.prog.info? 2).map (fun i => (i.zero, i.size, i.bytes)) = some (some (.int .i64 0), 1, 8) := by kernel_rfl

def vals (f : Nat → Int) (n : Nat) : List Value := (List.range n).map fun i => .int .i64 (f i)
theorem vals_one {f : Nat → Int} {n : Nat} : ∀ u ∈ vals f n, u.oneCell' = true := fun u hu => by
  simp [vals] at hu
  obtain ⟨a, _, rfl⟩ := hu
  rfl
theorem vals_news {w : World} {b n : Nat} {f : Nat → Int} (h : ∀ i, i < n → w.cell? ⟨b, i, none⟩ = some (.int .i64 (f i))) : ∀ (j : Nat) (u : Value), (vals f n)[j]? = some u → w.cell? ((⟨b, 0, none⟩ : Addr).add j) = some u := fun j u hu => by
  have hj : j < n := by
    rcases Nat.lt_or_ge j n with h | h
    · exact h
    · rw [List.getElem?_eq_none (by simp [vals]; omega)] at hu; cases hu
  have hadd : (⟨b, 0, none⟩ : Addr).add j = ⟨b, j, none⟩ := by unfold Addr.add; split <;> simp_all
  rw [hadd, h j hj]
  simp [vals, hj] at hu
  rw [← hu]
/-- a copy of the numbers f -/
def Cp (top : Nat) (w : World) (x : Option Addr) (n : Nat) (f : Nat → Int) : Prop := n = 0 ∨ ∃ g, x = some ⟨g, 0, none⟩ ∧ top ≤ g ∧ g < w.heap.size ∧ ∀ i, i < n → w.cell? ⟨g, i, none⟩ = some (.int .i64 (f i))
theorem cp_of_owns {w : World} {base n : Nat} {f : Nat → Int} {e : TypeId} {v : Value} (h : w.ownsRow base e 1 v n (vals f n)) : ∃ x c, v = .slice x n c ∧ Cp base w x n f := by
  rcases h.2 with ⟨rfl, rfl⟩ | ⟨g, cap, cur, rfl, h1, h2, h3, h4, h5, h6⟩
  · exact ⟨none, 0, rfl, .inl rfl⟩
  · refine ⟨_, _, rfl, .inr ⟨g, rfl, h1, (Array.getElem?_eq_some_iff.1 h2).1, fun i hi => ?_⟩⟩
    have h8 : (cur.toList.take (n * 1))[i]? = (vals f n)[i]? := by rw [h6]
    rw [List.getElem?_take_of_lt (by omega)] at h8
    rw [Array.getElem?_toList] at h8
    simp [World.cell?, h2, h8, vals, hi]
set_option maxRecDepth 100000 in
set_option maxHeartbeats 800000 in
theorem clone6 (b n c : Nat) (f : Nat → Int) (w : World) (hc : ∀ i, i < n → w.cell? ⟨b, i, none⟩ = some (.int .i64 (f i))) (hb : b < w.heap.size) (hn : n ≤ 1000000) :
    Calls Yba.prog 6 #[.slice (some ⟨b, 0, none⟩) n c] w fun e w' => ∃ x c', e = .returned (.slice x n c') ∧ Cp w.heap.size w' x n f ∧ Below w.heap.size w w' := by
  obtain ⟨i0, hi, hz0, hz1, hz2⟩ := info_parts Yba.infoI2
  have HC : Hid (∀ i, i < n → (w.alloc (.cells #[] 2)).cell? ⟨b, i, none⟩ = some (.int .i64 (f i))) := fun i hi => by rw [World.cell?_alloc_lt _ _ _ hb]; exact hc i hi
  clear hc
  have hnil := fun (w : World) => Lib.run_eql_slice_nil (P := Yba.prog) w 22 2 (some ⟨b, 0, none⟩) n c 0 0 Yba.underlying22
  go_enter Yba.func6, Yba.ntmps6
  go_wp2_with (at_builtin; refine wpList_append_own _ rfl (.tmp 5) (.tmp 6) 22 rfl w.heap.size 2 i0 (.int .i64 0) 1 8 Yba.underlying22 hi hz0 hz1 hz2 rfl (by decide) _ 0 [] rfl (World.ownsRow_made w #[] 0 (Nat.le_refl _) (by unfold maxLen; omega) (by simp)) ⟨b, 0, none⟩ n c (vals f n) rfl (by simp [vals]) (vals_news HC.out) vals_one (by unfold maxLen; omega) (by omega) (by simp) ?_)
  intro v' w1 hown hg _
  obtain ⟨x, c1, rfl, hcp⟩ := cp_of_owns hown
  have hbel : Below w.heap.size w w1 := ⟨hg.os, hg.tape, hg.output, by have := hg.size; simp at this; omega, fun i hi => (hg.block i (by simp; omega) (by simp [Value.ownBlock]; omega)).trans (Below.heap_alloc _ _ _ hi)⟩
  have HP : Hid (Cp w.heap.size w1 x n f ∧ Below w.heap.size w w1) := ⟨hcp, hbel⟩
  clear hown hg hcp hbel
  go_wp2_with fail
  go_ret
  exact ⟨_, _, rfl, HP.out.1, HP.out.2⟩
set_option maxRecDepth 100000 in
set_option maxHeartbeats 800000 in
theorem clone7 (b n c : Nat) (f : Nat → Int) (w : World) (hc : ∀ i, i < n → w.cell? ⟨b, i, none⟩ = some (.int .i64 (f i))) (hb : b < w.heap.size) (hn : n ≤ 1000000) :
    Calls Yba.prog 7 #[.slice (some ⟨b, 0, none⟩) n c] w fun e w' => ∃ x c', e = .returned (.slice x n c') ∧ Cp w.heap.size w' x n f ∧ Below w.heap.size w w' := by
  obtain ⟨i0, hi, hz0, hz1, hz2⟩ := info_parts Yba.info3
  have HC : Hid (∀ i, i < n → (w.alloc (.cells #[] 3)).cell? ⟨b, i, none⟩ = some (.int .i64 (f i))) := fun i hi => by rw [World.cell?_alloc_lt _ _ _ hb]; exact hc i hi
  clear hc
  have hnil := fun (w : World) => Lib.run_eql_slice_nil (P := Yba.prog) w 26 3 (some ⟨b, 0, none⟩) n c 0 0 Yba.underlying26
  go_enter Yba.func7, Yba.ntmps7
  go_wp2_with (at_builtin; refine wpList_append_own _ rfl (.tmp 5) (.tmp 6) 26 rfl w.heap.size 3 i0 (.int .i64 0) 1 8 Yba.underlying26 hi hz0 hz1 hz2 rfl (by decide) _ 0 [] rfl (World.ownsRow_made w #[] 0 (Nat.le_refl _) (by unfold maxLen; omega) (by simp)) ⟨b, 0, none⟩ n c (vals f n) rfl (by simp [vals]) (vals_news HC.out) vals_one (by unfold maxLen; omega) (by omega) (by simp) ?_)
  intro v' w1 hown hg _
  obtain ⟨x, c1, rfl, hcp⟩ := cp_of_owns hown
  have hbel : Below w.heap.size w w1 := ⟨hg.os, hg.tape, hg.output, by have := hg.size; simp at this; omega, fun i hi => (hg.block i (by simp; omega) (by simp [Value.ownBlock]; omega)).trans (Below.heap_alloc _ _ _ hi)⟩
  have HP : Hid (Cp w.heap.size w1 x n f ∧ Below w.heap.size w w1) := ⟨hcp, hbel⟩
  clear hown hg hcp hbel
  go_wp2_with fail
  go_ret
  exact ⟨_, _, rfl, HP.out.1, HP.out.2⟩

/-- the elements' part of a row -/
def Rd (w : World) (x : Option Addr) (n : Nat) (f : Nat → Int) : Prop := n = 0 ∨ ∃ g, x = some ⟨g, 0, none⟩ ∧ ∀ i, i < n → w.cell? ⟨g, i, none⟩ = some (.int .i64 (f i))
theorem Cp.rd {top : Nat} {w : World} {x : Option Addr} {n : Nat} {f : Nat → Int} (h : Cp top w x n f) : Rd w x n f := by
  rcases h with h | ⟨g, h1, _, _, h2⟩
  · exact .inl h
  · exact .inr ⟨g, h1, h2⟩
set_option maxRecDepth 100000 in
set_option maxHeartbeats 800000 in
theorem equal9 (x y : Option Addr) (n c d : Nat) (f : Nat → Int) (w : World) (h1 : Rd w x n f) (h2 : Rd w y n f) (hn : n ≤ 1000000) :
    Calls Yba.prog 9 #[.slice x n c, .slice y n d] w fun e w' => e = .returned (.bool true) ∧ Below w.heap.size w w' := by
  have H1 : Hid (Rd w x n f) := h1
  have H2 : Hid (Rd w y n f) := h2
  clear h1 h2
  go_enter Yba.func9, Yba.ntmps9
  go_wp2_with fail
  go_loopw [13] (fun i wr => ∃ (k m : Nat), k ≤ n ∧ i = .int .i64 k ∧ wr = w.drewN m) (fun i _ => n - (intOf i).toNat)
  case atStart => exact ⟨0, 0, Nat.zero_le _, rfl, rfl⟩
  case round =>
    obtain ⟨k, m, hk, rfl, rfl⟩ := hrel
    by_cases hlt : k < n
    · have hlt' : (k : Int) < (n : Int) := by omega
      rcases H1.out with h | ⟨g, rfl, hg⟩
      · omega
      rcases H2.out with h | ⟨g', rfl, hg'⟩
      · omega
      have c1 := hg k hlt
      have c2 := hg' k hlt
      clear hg hg'
      go_wp2_with fail
      go_quiet (fail)
      go_wp2_with fail
      go_roundw
      case rel => exact ⟨k + 1, m + nq, by omega, by go_num, rfl⟩
      case measure => simp [intOf]; omega
    · have hk2 : k = n := by omega
      subst hk2
      go_wp2_with fail
      go_ret
      exact ⟨rfl, below_drewN (Below.refl _ _) m⟩
end Go.Proofs.Ybulkdxng.D
