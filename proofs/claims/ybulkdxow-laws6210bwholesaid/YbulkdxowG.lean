import Derived.Test.YbulkdxowF
namespace Go.Proofs.Ybulkdxow.B
open Go.RowKit
set_option linter.unusedVariables false

/-! ### the plain part -/
def cntV (V : Nat → Int) (t : Int) : Nat → Nat
  | 0 => 0
  | n + 1 => cntV V t n + if V n = t then 1 else 0
theorem cntV_le (V : Nat → Int) (t : Int) : ∀ n, cntV V t n ≤ n
  | 0 => Nat.le_refl _
  | n + 1 => by
    have := cntV_le V t n
    simp only [cntV]
    split <;> omega
theorem cntV_sum (V : Nat → Int) (h : ∀ i, V i = 0 ∨ V i = 1 ∨ V i = 2) : ∀ n, cntV V 1 n + cntV V 0 n + cntV V 2 n = n
  | 0 => rfl
  | n + 1 => by
    have := cntV_sum V h n
    simp only [cntV]
    rcases h n with e | e | e <;> simp [e] <;> omega
def gateV (V : Nat → Int) (n : Nat) (k : Int) : Int := if k ≤ cntV V 1 n then 1 else if (cntV V 1 n : Int) + cntV V 0 n < k then 2 else 0
def sgl (K : Int) (n : Nat) (ls : Nat → Int × Bool) : Int × Bool := if 0 < n then ls 0 else (K, false)
def rV (app rej : Int) (g : Bool) (K : Int) (n : Nat) (ls : Nat → Int × Bool) : Int := if g = false ∨ n = 0 then leafV app rej (sgl K n ls) else gateV (fun i => leafV app rej (ls i)) n (K % ((n : Int) + 1))
theorem gateV_bd (V : Nat → Int) (n : Nat) (k : Int) : gateV V n k = 0 ∨ gateV V n k = 1 ∨ gateV V n k = 2 := by
  unfold gateV
  split
  · exact .inr (.inl rfl)
  · split
    · exact .inr (.inr rfl)
    · exact .inl rfl
theorem rV_bd (app rej : Int) (g : Bool) (K : Int) (n : Nat) (ls : Nat → Int × Bool) : rV app rej g K n ls = 0 ∨ rV app rej g K n ls = 1 ∨ rV app rej g K n ls = 2 := by
  unfold rV
  split
  · exact leafV_bd _ _ _
  · exact gateV_bd _ _ _

/-- a slice of leaves -/
def IsL (w : World) (x : Option Addr) (n : Nat) (ls : Nat → Int × Bool) : Prop :=
  (n = 0) ∨ ∃ b o, x = some ⟨b, o, none⟩ ∧ 0 < n ∧ b < w.heap.size ∧ ∀ i, i < n → w.cell? ⟨b, o + i * 2, none⟩ = some (.int .u8 (ls i).1) ∧ w.cell? ⟨b, o + i * 2 + 1, none⟩ = some (.bool (ls i).2) ∧ 0 ≤ (ls i).1 ∧ (ls i).1 ≤ 255
theorem IsL.below {w w' : World} {x : Option Addr} {n : Nat} {ls : Nat → Int × Bool} (h : IsL w x n ls) (hb : Below w.heap.size w w') : IsL w' x n ls := by
  rcases h with h | ⟨b, o, rfl, hn, hlt, hc⟩
  · exact .inl h
  · refine .inr ⟨b, o, rfl, hn, Nat.lt_of_lt_of_le hlt hb.size, fun i hi => ?_⟩
    rw [hb.cell (p := ⟨b, _, none⟩) hlt, hb.cell (p := ⟨b, _, none⟩) hlt]
    exact hc i hi
theorem single_any (g : Bool) (K : Int) (x : Option Addr) (n c : Nat) (ls : Nat → Int × Bool) (w : World) (h : IsL w x n ls) :
    Calls Yba.prog 18 #[.agg #[.bool g, .int .u8 K, .slice x n c]] w fun e w' => e = .returned (.agg #[.int .u8 (sgl K n ls).1, .bool (sgl K n ls).2]) ∧ Below w.heap.size w w' := by
  rcases h with rfl | ⟨b, o, rfl, hpos, hlt, hc⟩
  · exact single_zero g K x c w
  · obtain ⟨h0, h1, _⟩ := hc 0 hpos
    have e : sgl K n ls = ls 0 := by simp [sgl, hpos]
    rw [e]
    exact single_pos g K _ _ b o n c w hpos hlt (by simpa using h0) (by simpa using h1)
theorem sgl_bd {w : World} {x : Option Addr} {K : Int} {n : Nat} {ls : Nat → Int × Bool} (h : IsL w x n ls) (hK : 0 ≤ K ∧ K ≤ 255) : 0 ≤ (sgl K n ls).1 ∧ (sgl K n ls).1 ≤ 255 := by
  unfold sgl
  split
  · rename_i hp
    rcases h with h | ⟨b, o, h, hpos, hlt, hc⟩
    · omega
    · exact (hc 0 hpos).2.2
  · exact hK

/-! ### zzs6210bmodel -/
set_option maxHeartbeats 400000 in
theorem model_single (g : Bool) (K : Int) (x : Option Addr) (n c : Nat) (ls : Nat → Int × Bool) (app rej : Int) (w : World) (h : IsL w x n ls) (hK : 0 ≤ K ∧ K ≤ 255) (hn : n ≤ 1048576) (hg : g = false ∨ (g = true ∧ n = 0)) (ha0 : 0 ≤ app) (ha1 : app ≤ 255) (hr0 : 0 ≤ rej) (hr1 : rej ≤ 255) :
    Calls Yba.prog 11 #[.agg #[.bool g, .int .u8 K, .slice x n c], .int .u8 app, .int .u8 rej] w fun e w' => e = .returned (.int .i64 (leafV app rej (sgl K n ls))) ∧ Below w.heap.size w w' := by
  have hs := sgl_bd (K := K) h hK
  have hal : Below w.heap.size w (w.alloc (.cells #[.bool g, .int .u8 K, .slice x n c] 41)) := (Below.refl _ _).alloc (Nat.le_refl _) _
  have h' := h.below hal
  obtain ⟨hs0, hs1⟩ := hs
  rcases hg with rfl | ⟨rfl, rfl⟩
  · go_enter Yba.func11, Yba.ntmps11
    go_wp2_with fail
    refine (single_any false K x n c ls _ h').mono ?_
    rintro e w1 ⟨rfl, hb1⟩
    go_wp2_with fail
    refine (leaf_any _ app rej _ _ hs0 hs1 ha0 ha1 hr0 hr1).mono ?_
    rintro e w2 ⟨rfl, hb2⟩
    go_wp2_with fail
    go_ret
    exact ⟨rfl, hal.trans ((hb1.trans (hb2.mono hb1.size)).mono (by simp))⟩
  · go_enter Yba.func11, Yba.ntmps11
    go_wp2_with fail
    refine (single_any true K x 0 c ls _ h').mono ?_
    rintro e w1 ⟨rfl, hb1⟩
    go_wp2_with fail
    refine (leaf_any _ app rej _ _ hs0 hs1 ha0 ha1 hr0 hr1).mono ?_
    rintro e w2 ⟨rfl, hb2⟩
    go_wp2_with fail
    go_ret
    exact ⟨rfl, hal.trans ((hb1.trans (hb2.mono hb1.size)).mono (by simp))⟩

theorem cells3 {w : World} {b : Nat} {x y z : Value} {t : TypeId} (h : w.heap[b]? = some (.cells #[x, y, z] t (0, 0))) :
    w.cell? ⟨b, 0, none⟩ = some x ∧ w.cell? ⟨b, 1, none⟩ = some y ∧ w.cell? ⟨b, 2, none⟩ = some z ∧ b < w.heap.size := by
  refine ⟨?_, ?_, ?_, (Array.getElem?_eq_some_iff.1 h).1⟩ <;> simp [World.cell?, h]

set_option maxHeartbeats 800000 in
theorem model_gate (K : Int) (b o n c : Nat) (ls : Nat → Int × Bool) (app rej : Int) (w : World) (hpos : 0 < n) (hlt : b < w.heap.size)
    (hc : ∀ i, i < n → w.cell? ⟨b, o + i * 2, none⟩ = some (.int .u8 (ls i).1) ∧ w.cell? ⟨b, o + i * 2 + 1, none⟩ = some (.bool (ls i).2) ∧ 0 ≤ (ls i).1 ∧ (ls i).1 ≤ 255)
    (hK : 0 ≤ K ∧ K ≤ 255) (hn : n ≤ 1048576) (ha0 : 0 ≤ app) (ha1 : app ≤ 255) (hr0 : 0 ≤ rej) (hr1 : rej ≤ 255) :
    Calls Yba.prog 11 #[.agg #[.bool true, .int .u8 K, .slice (some ⟨b, o, none⟩) n c], .int .u8 app, .int .u8 rej] w fun e w' => e = .returned (.int .i64 (gateV (fun i => leafV app rej (ls i)) n (K % ((n : Int) + 1)))) ∧ Below w.heap.size w w' := by
  obtain ⟨hK0, hK1⟩ := hK
  have hn0 : ((n : Int) == 0) = false := by simp; omega
  generalize hV : (fun i => leafV app rej (ls i)) = V
  have hVb : ∀ i, V i = 0 ∨ V i = 1 ∨ V i = 2 := by intro i; rw [← hV]; exact leafV_bd _ _ _
  have HV : Hid (∀ i, leafV app rej (ls i) = V i) := fun i => by rw [← hV]
  have hsum := cntV_sum V hVb n
  have hm0 : 0 ≤ K % ((n : Int) + 1) := Int.emod_nonneg _ (by omega)
  have hm1 : K % ((n : Int) + 1) < (n : Int) + 1 := Int.emod_lt_of_pos _ (by omega)
  have HS : Hid (cntV V 1 n + cntV V 0 n + cntV V 2 n = n) := hsum
  have HVb : Hid (∀ i, V i = 0 ∨ V i = 1 ∨ V i = 2) := hVb
  clear hV hVb hsum
  go_enter Yba.func11, Yba.ntmps11
  go_wp2_with fail
  have hst : (w.alloc (.cells #[.bool true, .int .u8 K, .slice (some ⟨b, o, none⟩) n c] 41)).heap[w.heap.size]? = some (.cells #[.bool true, .int .u8 K, .slice (some ⟨b, o, none⟩) n c] 41 (0, 0)) := heap_alloc_new w _
  go_loopw [9, 10, 11] (fun h p i wr => ∃ k : Nat, k ≤ n ∧ i = .int .i64 k ∧ h = .int .i64 (cntV V 1 k) ∧ p = .int .i64 (cntV V 0 k) ∧ Below w.heap.size w wr ∧ wr.heap[w.heap.size]? = some (.cells #[.bool true, .int .u8 K, .slice (some ⟨b, o, none⟩) n c] 41 (0, 0))) (fun _ _ i _ => n - (intOf i).toNat)
  case atStart => exact ⟨0, Nat.zero_le _, rfl, rfl, rfl, (Below.refl _ _).alloc (Nat.le_refl _) _, hst⟩
  case round =>
    obtain ⟨k, hk, rfl, rfl, rfl, hbel, hblk⟩ := hrel
    have hblk2 := hblk
    obtain ⟨c0, c1, c2, hlt2⟩ := cells3 hblk
    have HB : Hid (wr.heap[w.heap.size]? = some (.cells #[.bool true, .int .u8 K, .slice (some ⟨b, o, none⟩) n c] 41 (0, 0))) := hblk
    have b1 := cntV_le V 1 k
    have b0 := cntV_le V 0 k
    clear hblk hblk2 hst
    by_cases hkn : k < n
    · obtain ⟨q0, q1, z0, z1⟩ := hc k hkn
      rw [← hbel.cell (p := ⟨b, _, none⟩) hlt] at q0 q1
      have hkn' : (k : Int) < (n : Int) := by omega
      clear hc
      go_wp2_with fail
      refine (leaf_any _ app rej _ _ z0 z1 ha0 ha1 hr0 hr1).mono ?_
      rintro e w2 ⟨rfl, hb2⟩
      have hbel2 : Below w.heap.size w w2 := hbel.trans (hb2.mono hbel.size)
      have hblk3 : w2.heap[w.heap.size]? = some (.cells #[.bool true, .int .u8 K, .slice (some ⟨b, o, none⟩) n c] 41 (0, 0)) := by rw [hb2.block _ hlt2]; exact HB.out
      have HB3 : Hid (w2.heap[w.heap.size]? = some (.cells #[.bool true, .int .u8 K, .slice (some ⟨b, o, none⟩) n c] 41 (0, 0))) := hblk3
      clear hblk3 hbel hb2 c0 c1 c2 q0 q1
      rw [show leafV app rej ((ls k).1, (ls k).2) = V k from HV.out k]
      have e1 : cntV V 1 (k + 1) = cntV V 1 k + if V k = 1 then 1 else 0 := rfl
      have e0 : cntV V 0 (k + 1) = cntV V 0 k + if V k = 0 then 1 else 0 := rfl
      have HE1 : Hid (cntV V 1 (k + 1) = cntV V 1 k + if V k = 1 then 1 else 0) := e1
      have HE0 : Hid (cntV V 0 (k + 1) = cntV V 0 k + if V k = 0 then 1 else 0) := e0
      clear e1 e0
      rcases HVb.out k with hv | hv | hv
      all_goals
        have HVK : Hid (V k = _) := hv
        rw [hv]
        clear hv
        go_wp2_with fail
        go_roundw
        case rel => exact ⟨k + 1, by omega, by go_num, by rw [HE1.out, HVK.out]; first | rfl | go_num, by rw [HE0.out, HVK.out]; first | rfl | go_num, hbel2, HB3.out⟩
        case measure => simp [intOf]; omega
    · have hkn2 : k = n := by omega
      subst hkn2
      have HG : Hid (gateV V k (K % ((k : Int) + 1)) = if K % ((k : Int) + 1) ≤ cntV V 1 k then 1 else if (cntV V 1 k : Int) + cntV V 0 k < K % ((k : Int) + 1) then 2 else 0) := rfl
      by_cases t1 : K % ((k : Int) + 1) ≤ (cntV V 1 k : Int)
      · go_wp2_with fail
        go_ret
        exact ⟨by rw [HG.out, if_pos t1]; rfl, hbel⟩
      · by_cases t2 : (cntV V 1 k : Int) + cntV V 0 k < K % ((k : Int) + 1)
        · go_wp2_with fail
          go_ret
          exact ⟨by rw [HG.out, if_neg (by omega), if_pos t2]; rfl, hbel⟩
        · go_wp2_with fail
          go_ret
          exact ⟨by rw [HG.out, if_neg (by omega), if_neg (by omega)]; rfl, hbel⟩
end Go.Proofs.Ybulkdxow.B
