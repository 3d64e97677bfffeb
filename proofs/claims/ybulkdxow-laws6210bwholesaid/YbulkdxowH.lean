import Derived.Test.YbulkdxowG
import Derived.Deep.RegionWith
namespace Go.Proofs.Ybulkdxow.B
open Go.RowKit
set_option linter.unusedVariables false

/-! ### Decide at a gate -/
def GateP (w : World) (b : Nat) (K : Int) (n : Nat) (ls : Nat → Int × Bool) : Prop :=
  ∃ (g cap : Nat) (ps : Nat → Nat) (cur : Array Value), w.heap[b]? = some (.cells #[.string ⟨#[]⟩, .bool false, .int .i64 (K % ((n : Int) + 1)), .slice (some ⟨g, 0, none⟩) n cap] 65 (0, 0)) ∧
    w.heap[g]? = some (.cells cur 43 (0, 0)) ∧ ∀ i, i < n → cur[i]? = some (.pointer (some ⟨ps i, 0, none⟩)) ∧ LeafP w (ps i) (ls i)

set_option maxHeartbeats 800000 in
theorem decide_gate (b ba br n : Nat) (K : Int) (ls : Nat → Int × Bool) (app rej : Int) (w : World) (hpos : 0 < n) (hn : n ≤ 1048576) (hK : 0 ≤ K ∧ K ≤ 255) (hls : ∀ i, i < n → 0 ≤ (ls i).1 ∧ (ls i).1 ≤ 255) (ha0 : 0 ≤ app) (ha1 : app ≤ 255) (hr0 : 0 ≤ rej) (hr1 : rej ≤ 255) (hG : GateP w b K n ls) (hA : w.cell? ⟨ba, 0, none⟩ = some (.int .u8 app)) (hR : w.cell? ⟨br, 0, none⟩ = some (.int .u8 rej)) :
    Calls Yba.prog 21 #[.pointer (some ⟨b, 0, none⟩), .func (.func 12) #[] #[.pointer (some ⟨ba, 0, none⟩)], .func (.func 14) #[] #[.pointer (some ⟨br, 0, none⟩)]] w fun e w' => e = .returned (.int .i64 (gateV (fun i => leafV app rej (ls i)) n (K % ((n : Int) + 1)))) ∧ ∃ m, w' = w.drewN m := by
  obtain ⟨g, cap, ps, cur, hb, hg, hit⟩ := hG
  obtain ⟨c0, c1, c2, c3, hlt⟩ := cells4 hb
  have hn0 : ((n : Int) == 0) = false := by simp; omega
  have hcur : ∀ i, i < n → w.cell? ⟨g, i, none⟩ = some (.pointer (some ⟨ps i, 0, none⟩)) := by
    intro i hi
    simp only [World.cell?, hg]
    simpa using (hit i hi).1
  have HL : Hid (∀ i, i < n → LeafP w (ps i) (ls i)) := fun i hi => (hit i hi).2
  have HLS : Hid (∀ i, i < n → 0 ≤ (ls i).1 ∧ (ls i).1 ≤ 255) := hls
  obtain ⟨hK0, hK1⟩ := hK
  have hm0 : 0 ≤ K % ((n : Int) + 1) := Int.emod_nonneg _ (by omega)
  have hm1 : K % ((n : Int) + 1) < (n : Int) + 1 := Int.emod_lt_of_pos _ (by omega)
  generalize K % ((n : Int) + 1) = kk at *
  generalize hV : (fun i => leafV app rej (ls i)) = V
  have hVb : ∀ i, V i = 0 ∨ V i = 1 ∨ V i = 2 := by intro i; rw [← hV]; exact leafV_bd _ _ _
  have HV : Hid (∀ i, leafV app rej (ls i) = V i) := fun i => by rw [← hV]
  have hsum := cntV_sum V hVb n
  have HS : Hid (cntV V 1 n + cntV V 0 n + cntV V 2 n = n) := hsum
  have HVb : Hid (∀ i, V i = 0 ∨ V i = 1 ∨ V i = 2) := hVb
  clear hV hVb hsum hb hg hit hls
  go_enter Yba.func21, Yba.ntmps21
  go_wp2_with fail
  go_loop [8, 9, 48] (fun h p i => ∃ k : Nat, k ≤ n ∧ i = .int .i64 k ∧ h = .int .i64 (cntV V 1 k) ∧ p = .int .i64 (cntV V 2 k)) (fun _ _ i => n - (intOf i).toNat)
  case atStart => exact ⟨0, Nat.zero_le _, rfl, rfl, rfl⟩
  case round =>
    obtain ⟨k, hk, rfl, rfl, rfl⟩ := hrel
    have b1 := cntV_le V 1 k
    have b0 := cntV_le V 2 k
    by_cases hkn : k < n
    · have q0 := hcur k hkn
      have hkn' : (k : Int) < (n : Int) := by omega
      clear hcur
      go_wp2_with fail
      refine (decide_leaf (ps k) ba br (ls k) app rej _ (HLS.out k hkn).1 ha0 ha1 hr0 hr1 (HL.out k hkn) hA hR).mono ?_
      rintro e w2 ⟨rfl, rfl⟩
      rw [HV.out k]
      have e1 : cntV V 1 (k + 1) = cntV V 1 k + if V k = 1 then 1 else 0 := rfl
      have e0 : cntV V 2 (k + 1) = cntV V 2 k + if V k = 2 then 1 else 0 := rfl
      have HE1 : Hid (cntV V 1 (k + 1) = cntV V 1 k + if V k = 1 then 1 else 0) := e1
      have HE0 : Hid (cntV V 2 (k + 1) = cntV V 2 k + if V k = 2 then 1 else 0) := e0
      clear e1 e0
      rcases HVb.out k with hv | hv | hv
      all_goals
        have HVK : Hid (V k = _) := hv
        rw [hv]
        clear hv
        go_wp2_with fail
        go_round
        case rel => exact ⟨k + 1, by omega, by go_num, by rw [HE1.out, HVK.out]; first | rfl | go_num, by rw [HE0.out, HVK.out]; first | rfl | go_num⟩
        case measure => simp [intOf]; omega
    · have hkn2 : k = n := by omega
      subst hkn2
      have HG : Hid (gateV V k kk = if kk ≤ cntV V 1 k then 1 else if (cntV V 1 k : Int) + cntV V 0 k < kk then 2 else 0) := rfl
      clear hcur
      by_cases t1 : kk ≤ (cntV V 1 k : Int)
      · go_wp2_with fail
        go_ret
        exact ⟨by rw [HG.out, if_pos t1]; rfl, 0, rfl⟩
      · have hsum := HS.out
        by_cases t2 : (k : Int) - kk < (cntV V 2 k : Int)
        · have t3 : (cntV V 1 k : Int) + cntV V 0 k < kk := by omega
          clear hsum
          go_wp2_with fail
          go_quiet (fail)
          go_wp2_with fail
          go_ret
          exact ⟨by rw [HG.out, if_neg (by omega), if_pos t3]; rfl, _, rfl⟩
        · have t3 : ¬ ((cntV V 1 k : Int) + cntV V 0 k < kk) := by omega
          clear hsum
          go_wp2_with fail
          go_quiet (fail)
          go_wp2_with fail
          go_ret
          exact ⟨by rw [HG.out, if_neg (by omega), if_neg (by omega)]; rfl, _, rfl⟩

def PolP (w : World) (b : Nat) (g : Bool) (K : Int) (n : Nat) (ls : Nat → Int × Bool) : Prop :=
  ((g = false ∨ n = 0) ∧ LeafP w b (sgl K n ls)) ∨ (¬ (g = false ∨ n = 0) ∧ GateP w b K n ls)
theorem decide_pol (b ba br n : Nat) (g : Bool) (K : Int) (ls : Nat → Int × Bool) (app rej : Int) (w : World) (hn : n ≤ 1048576) (hK : 0 ≤ K ∧ K ≤ 255) (hls : ∀ i, i < n → 0 ≤ (ls i).1 ∧ (ls i).1 ≤ 255) (ha0 : 0 ≤ app) (ha1 : app ≤ 255) (hr0 : 0 ≤ rej) (hr1 : rej ≤ 255) (hP : PolP w b g K n ls) (hA : w.cell? ⟨ba, 0, none⟩ = some (.int .u8 app)) (hR : w.cell? ⟨br, 0, none⟩ = some (.int .u8 rej)) :
    Calls Yba.prog 21 #[.pointer (some ⟨b, 0, none⟩), .func (.func 12) #[] #[.pointer (some ⟨ba, 0, none⟩)], .func (.func 14) #[] #[.pointer (some ⟨br, 0, none⟩)]] w fun e w' => e = .returned (.int .i64 (rV app rej g K n ls)) ∧ ∃ m, w' = w.drewN m := by
  rcases hP with ⟨hg, hL⟩ | ⟨hg, hG⟩
  · have e : rV app rej g K n ls = leafV app rej (sgl K n ls) := by unfold rV; rw [if_pos hg]
    rw [e]
    have hs : 0 ≤ (sgl K n ls).1 := by
      unfold sgl
      split
      · rename_i hp; exact (hls 0 hp).1
      · exact hK.1
    refine (decide_leaf b ba br _ app rej w hs ha0 ha1 hr0 hr1 hL hA hR).mono ?_
    rintro e w' ⟨rfl, rfl⟩
    exact ⟨rfl, 0, rfl⟩
  · have e : rV app rej g K n ls = gateV (fun i => leafV app rej (ls i)) n (K % ((n : Int) + 1)) := by unfold rV; rw [if_neg hg]
    rw [e]
    exact decide_gate b ba br n K ls app rej w (by omega) hn hK hls ha0 ha1 hr0 hr1 hG hA hR

/-! ### zzs6210bbuild -/
theorem heap_two (w : World) (A B : Obj) : ((w.alloc A).alloc B).heap[w.heap.size + 1]? = some B := by
  have h := heap_alloc_new (w.alloc A) B
  rw [World.size_alloc] at h
  exact h
theorem below_two (w : World) (A B : Obj) : Below w.heap.size w ((w.alloc A).alloc B) := ((Below.refl _ _).alloc (Nat.le_refl _) _).alloc (by simp) _
theorem below_two_drew (w : World) (A B : Obj) (k : Nat) : Below w.heap.size w (((w.alloc A).alloc B).drewN k) := by
  have h := below_two w A B
  exact ⟨h.os, h.tape, h.output, h.size, h.block⟩
theorem Yba.info43 : (Yba.prog.info? 43).map (fun i => (i.zero, i.size, i.bytes)) = some (some (.pointer none), 1, 8) := by kernel_rfl
theorem Yba.info47 : (Yba.prog.info? 47).map (fun i => (i.zero, i.size, i.bytes)) = some (some (.agg #[.pointer none, .map none]), 2, 16) := by kernel_rfl
set_option maxHeartbeats 400000 in
theorem build_single (g : Bool) (K : Int) (x : Option Addr) (n c : Nat) (ls : Nat → Int × Bool) (w : World) (h : IsL w x n ls) (hK : 0 ≤ K ∧ K ≤ 255) (hn : n ≤ 1048576) (hg : g = false ∨ (g = true ∧ n = 0)) :
    Calls Yba.prog 10 #[.agg #[.bool g, .int .u8 K, .slice x n c]] w fun e w' => ∃ b, e = .returned (.pointer (some ⟨b, 0, none⟩)) ∧ LeafP w' b (sgl K n ls) ∧ w.heap.size ≤ b ∧ Below w.heap.size w w' := by
  have hs := sgl_bd (K := K) h hK
  have hal : Below w.heap.size w (w.alloc (.cells #[.bool g, .int .u8 K, .slice x n c] 41)) := (Below.refl _ _).alloc (Nat.le_refl _) _
  have h' := h.below hal
  obtain ⟨hs0, hs1⟩ := hs
  rcases hg with rfl | ⟨rfl, rfl⟩
  · go_enter Yba.func10, Yba.ntmps10
    go_wp2_with fail
    refine (single_any false K x n c ls _ h').mono ?_
    rintro e w1 ⟨rfl, hb1⟩
    go_wp2_with fail
    go_region_with (go_at_call 19; refine (name_any _ _ hs0 hs1).mono ?_; rintro e w' ⟨rfl, rfl⟩)
    all_goals go_wp2_with fail
    all_goals go_ret
    all_goals exact ⟨w1.heap.size + 1, rfl, heap_two w1 _ _, by have := hb1.size; simp at this; omega, (hal.trans (hb1.mono (by simp))).trans ((below_two_drew w1 _ _ 1).mono (by have := hb1.size; simp at this; omega))⟩
  · go_enter Yba.func10, Yba.ntmps10
    go_wp2_with fail
    refine (single_any true K x 0 c ls _ h').mono ?_
    rintro e w1 ⟨rfl, hb1⟩
    go_wp2_with fail
    go_region_with (go_at_call 19; refine (name_any _ _ hs0 hs1).mono ?_; rintro e w' ⟨rfl, rfl⟩)
    all_goals go_wp2_with fail
    all_goals go_ret
    all_goals exact ⟨w1.heap.size + 1, rfl, heap_two w1 _ _, by have := hb1.size; simp at this; omega, (hal.trans (hb1.mono (by simp))).trans ((below_two_drew w1 _ _ 1).mono (by have := hb1.size; simp at this; omega))⟩
end Go.Proofs.Ybulkdxow.B
