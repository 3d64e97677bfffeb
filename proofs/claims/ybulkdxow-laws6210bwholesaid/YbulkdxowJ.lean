import Derived.Test.YbulkdxowI
namespace Go.Proofs.Ybulkdxow.B
open Go.RowKit
set_option linter.unusedVariables false

theorem build_any (g : Bool) (K : Int) (x : Option Addr) (n c : Nat) (ls : Nat → Int × Bool) (w : World) (h : IsL w x n ls) (hK : 0 ≤ K ∧ K ≤ 255) (hn : n ≤ 1048576) :
    Calls Yba.prog 10 #[.agg #[.bool g, .int .u8 K, .slice x n c]] w fun e w' => ∃ p, e = .returned (.pointer (some ⟨p, 0, none⟩)) ∧ PolP w' p g K n ls ∧ w.heap.size ≤ p ∧ Below w.heap.size w w' := by
  by_cases hg : g = false ∨ n = 0
  · have hg' : g = false ∨ (g = true ∧ n = 0) := by
      cases g with
      | false => exact .inl rfl
      | true => rcases hg with h | h; cases h; exact .inr ⟨rfl, h⟩
    refine (build_single g K x n c ls w h hK hn hg').mono ?_
    rintro e w' ⟨b, rfl, hL, hb, hbel⟩
    exact ⟨b, rfl, .inl ⟨hg, hL⟩, hb, hbel⟩
  · have hgt : g = true := by cases g with | true => rfl | false => exact absurd (.inl rfl) hg
    subst hgt
    rcases h with h | ⟨b, o, rfl, hpos, hlt, hc⟩
    · exact absurd (.inr h) hg
    · refine (build_gate K b o n c ls w hpos hlt hc hK hn).mono ?_
      rintro e w' ⟨p, rfl, hG, hb, hbel⟩
      exact ⟨p, rfl, .inr ⟨hg, hG⟩, hb, hbel⟩
theorem model_any (g : Bool) (K : Int) (x : Option Addr) (n c : Nat) (ls : Nat → Int × Bool) (app rej : Int) (w : World) (h : IsL w x n ls) (hK : 0 ≤ K ∧ K ≤ 255) (hn : n ≤ 1048576) (ha0 : 0 ≤ app) (ha1 : app ≤ 255) (hr0 : 0 ≤ rej) (hr1 : rej ≤ 255) :
    Calls Yba.prog 11 #[.agg #[.bool g, .int .u8 K, .slice x n c], .int .u8 app, .int .u8 rej] w fun e w' => e = .returned (.int .i64 (rV app rej g K n ls)) ∧ Below w.heap.size w w' := by
  by_cases hg : g = false ∨ n = 0
  · have hg' : g = false ∨ (g = true ∧ n = 0) := by
      cases g with
      | false => exact .inl rfl
      | true => rcases hg with h | h; cases h; exact .inr ⟨rfl, h⟩
    have e : rV app rej g K n ls = leafV app rej (sgl K n ls) := by unfold rV; rw [if_pos hg]
    rw [e]
    exact model_single g K x n c ls app rej w h hK hn hg' ha0 ha1 hr0 hr1
  · have hgt : g = true := by cases g with | true => rfl | false => exact absurd (.inl rfl) hg
    have e : rV app rej g K n ls = gateV (fun i => leafV app rej (ls i)) n (K % ((n : Int) + 1)) := by unfold rV; rw [if_neg hg]
    rw [e]
    subst hgt
    rcases h with h | ⟨b, o, rfl, hpos, hlt, hc⟩
    · exact absurd (.inr h) hg
    · exact model_gate K b o n c ls app rej w hpos hlt hc hK hn ha0 ha1 hr0 hr1

/-! ### what is kept -/
theorem LeafP.same {w w' : World} {b : Nat} {l : Int × Bool} (h : LeafP w b l) (hs : w'.heap[b]? = w.heap[b]?) : LeafP w' b l := by unfold LeafP at *; rw [hs]; exact h
/-- all blocks stay but one that is no policy's -/
theorem PolP.kept {w w' : World} {b : Nat} {g : Bool} {K : Int} {n : Nat} {ls : Nat → Int × Bool} (h : PolP w b g K n ls) (hs : ∀ (j : Nat) (cs : Array Value) (t : TypeId) (fr : Nat × Nat), w.heap[j]? = some (.cells cs t fr) → t = 65 ∨ t = 43 → w'.heap[j]? = w.heap[j]?) : PolP w' b g K n ls := by
  rcases h with ⟨h1, h2⟩ | ⟨h1, gg, cap, ps, cur, h2, h3, h4⟩
  · exact .inl ⟨h1, h2.same (hs _ _ _ _ h2 (.inl rfl))⟩
  · refine .inr ⟨h1, gg, cap, ps, cur, by rw [hs _ _ _ _ h2 (.inl rfl)]; exact h2, by rw [hs _ _ _ _ h3 (.inr rfl)]; exact h3, fun i hi => ⟨(h4 i hi).1, ?_⟩⟩
    exact (h4 i hi).2.same (hs _ _ _ _ (h4 i hi).2 (.inl rfl))
theorem PolP.below {w w' : World} {b : Nat} {g : Bool} {K : Int} {n : Nat} {ls : Nat → Int × Bool} (h : PolP w b g K n ls) (hb : Below w.heap.size w w') : PolP w' b g K n ls :=
  h.kept fun j cs t fr hj _ => hb.block j (Array.getElem?_eq_some_iff.1 hj).1
theorem PolP.grown {w w' : World} {b r : Nat} {g : Bool} {K : Int} {n : Nat} {ls : Nat → Int × Bool} {cur : Array Value} {fr : Nat × Nat} (h : PolP w b g K n ls) (hr : w.heap[r]? = some (.cells cur 47 fr)) (hg : w.grownBy w' (some r)) : PolP w' b g K n ls :=
  h.kept fun j cs t fr' hj ht => hg.block j (Array.getElem?_eq_some_iff.1 hj).1 (by
    intro e
    simp at e
    subst e
    rw [hr] at hj
    simp at hj
    obtain ⟨_, rfl, _⟩ := hj
    rcases ht with h | h <;> simp at h)

/-! ### the rules -/
structure RD where
  g : Bool
  K : Int
  x : Option Addr
  n : Nat
  c : Nat
  ls : Nat → Int × Bool
def vOf (app rej : Int) (R : Nat → RD) (i : Nat) : Int := rV app rej (R i).g (R i).K (R i).n (R i).ls
/-- the built rules -/
def Built (w : World) (xs : List Value) (k : Nat) (R : Nat → RD) : Prop :=
  xs.length = 2 * k ∧ ∀ i, i < k → ∃ p, xs[2 * i]? = some (.pointer (some ⟨p, 0, none⟩)) ∧ xs[2 * i + 1]? = some (.map none) ∧ PolP w p (R i).g (R i).K (R i).n (R i).ls
def dV (V : Nat → Int) (n : Nat) : Int := if 0 < cntV V 2 n then 2 else if 0 < cntV V 0 n then 0 else 1
theorem cntV_mono (V : Nat → Int) (t : Int) {a b : Nat} (h : a ≤ b) : cntV V t a ≤ cntV V t b := by
  induction b with
  | zero => obtain rfl : a = 0 := by omega
            exact Nat.le_refl _
  | succ b ih =>
    by_cases e : a = b + 1
    · subst e; exact Nat.le_refl _
    · have := ih (by omega)
      simp only [cntV]
      omega

set_option maxHeartbeats 800000 in
theorem decide_any (g N cap ba br : Nat) (xs : List Value) (R : Nat → RD) (app rej : Int) (w : World) (hN : N ≤ 65536) (hg : g < w.heap.size) (hx : ∀ i, i < 2 * N → w.cell? ⟨g, i, none⟩ = xs[i]?) (hB : Built w xs N R)
    (hR : ∀ i, i < N → (R i).n ≤ 1048576 ∧ (0 ≤ (R i).K ∧ (R i).K ≤ 255) ∧ ∀ j, j < (R i).n → 0 ≤ ((R i).ls j).1 ∧ ((R i).ls j).1 ≤ 255)
    (ha0 : 0 ≤ app) (ha1 : app ≤ 255) (hr0 : 0 ≤ rej) (hr1 : rej ≤ 255) (hA : w.cell? ⟨ba, 0, none⟩ = some (.int .u8 app)) (hRj : w.cell? ⟨br, 0, none⟩ = some (.int .u8 rej)) (hba : ba < w.heap.size) (hbr : br < w.heap.size) :
    Calls Yba.prog 15 #[.slice (some ⟨g, 0, none⟩) N cap, .func (.func 12) #[] #[.pointer (some ⟨ba, 0, none⟩)], .func (.func 14) #[] #[.pointer (some ⟨br, 0, none⟩)]] w fun e w' => e = .returned (.int .i64 (dV (vOf app rej R) N)) ∧ Below w.heap.size w w' := by
  have hVb : ∀ i, vOf app rej R i = 0 ∨ vOf app rej R i = 1 ∨ vOf app rej R i = 2 := fun i => rV_bd _ _ _ _ _ _
  have HVR : Hid (∀ i, rV app rej (R i).g (R i).K (R i).n (R i).ls = vOf app rej R i) := fun i => rfl
  generalize vOf app rej R = V at *
  have HVb : Hid (∀ i, V i = 0 ∨ V i = 1 ∨ V i = 2) := hVb
  have HB : Hid (Built w xs N R) := hB
  have HX : Hid (∀ i, i < 2 * N → w.cell? ⟨g, i, none⟩ = xs[i]?) := hx
  have HR : Hid (∀ i, i < N → (R i).n ≤ 1048576 ∧ (0 ≤ (R i).K ∧ (R i).K ≤ 255) ∧ ∀ j, j < (R i).n → 0 ≤ ((R i).ls j).1 ∧ ((R i).ls j).1 ≤ 255) := hR
  clear hVb hB hx hR
  go_enter Yba.func15, Yba.ntmps15
  go_wp2_with fail
  go_loopw [7, 12] (fun v i wr => ∃ (k : Nat) (v0 : Int), k ≤ N ∧ i = .int .i64 k ∧ cntV V 2 k = 0 ∧ v = .int .i64 v0 ∧ Hid (v0 = if 0 < cntV V 0 k then 0 else 1) ∧ Below w.heap.size w wr) (fun _ i _ => N - (intOf i).toNat)
  case atStart => exact ⟨0, 1, Nat.zero_le _, rfl, rfl, rfl, rfl, Below.refl _ _⟩
  case round =>
    obtain ⟨k, v0, hk, rfl, h2', rfl, HV0, hbel⟩ := hrel
    have H2 : Hid (cntV V 2 k = 0) := h2'
    clear h2'
    have hszr := hbel.size
    by_cases hkn : k < N
    · obtain ⟨p, x0, x1, hP⟩ := HB.out.2 k hkn
      have q0 : w.cell? ⟨g, k * 2, none⟩ = some (.pointer (some ⟨p, 0, none⟩)) := by rw [HX.out (k * 2) (by omega), show k * 2 = 2 * k by omega]; exact x0
      have q1 : w.cell? ⟨g, k * 2 + 1, none⟩ = some (.map none) := by rw [HX.out (k * 2 + 1) (by omega), show k * 2 + 1 = 2 * k + 1 by omega]; exact x1
      rw [← hbel.cell (p := ⟨g, _, none⟩) hg] at q0 q1
      have hgr : g < wr.heap.size := by omega
      have hkn' : (k : Int) < (N : Int) := by omega
      have HP : Hid (PolP w p (R k).g (R k).K (R k).n (R k).ls) := hP
      clear x0 x1 hP
      go_wp2_with fail
      have hal : Below wr.heap.size wr (wr.alloc (Obj.cells #[Value.pointer (some ⟨p, 0, none⟩), Value.map none] 47)) := (Below.refl _ _).alloc (Nat.le_refl _) _
      have hb2 : Below w.heap.size w (wr.alloc (Obj.cells #[Value.pointer (some ⟨p, 0, none⟩), Value.map none] 47)) := hbel.trans (hal.mono hbel.size)
      refine (decide_pol p ba br (R k).n (R k).g (R k).K (R k).ls app rej _ (HR.out k hkn).1 (HR.out k hkn).2.1 (HR.out k hkn).2.2 ha0 ha1 hr0 hr1 (HP.out.below hb2) (by rw [hb2.cell (p := ⟨ba, 0, none⟩) hba]; exact hA) (by rw [hb2.cell (p := ⟨br, 0, none⟩) hbr]; exact hRj)).mono ?_
      rintro e w3 ⟨rfl, m, rfl⟩
      rw [HVR.out k]
      have e2 : cntV V 2 (k + 1) = cntV V 2 k + if V k = 2 then 1 else 0 := rfl
      have e0 : cntV V 0 (k + 1) = cntV V 0 k + if V k = 0 then 1 else 0 := rfl
      have HE2 : Hid (cntV V 2 (k + 1) = cntV V 2 k + if V k = 2 then 1 else 0) := e2
      have HE0 : Hid (cntV V 0 (k + 1) = cntV V 0 k + if V k = 0 then 1 else 0) := e0
      have hm2 := cntV_mono V 2 (show k + 1 ≤ N by omega)
      have HM2 : Hid (cntV V 2 (k + 1) ≤ cntV V 2 N) := hm2
      clear e2 e0 hm2 hal
      rcases HVb.out k with hv | hv | hv
      · have HVK : Hid (V k = 0) := hv
        rw [hv]
        clear hv
        go_wp2_with fail
        go_roundw
        case rel => exact ⟨k + 1, 0, by omega, by go_num, by rw [HE2.out, HVK.out]; simpa using H2.out, rfl, show _ = _ by rw [HE0.out, HVK.out]; simp, below_drewN hb2 _⟩
        case measure => simp [intOf]; omega
      · have HVK : Hid (V k = 1) := hv
        rw [hv]
        clear hv
        go_wp2_with fail
        go_roundw
        case rel => exact ⟨k + 1, v0, by omega, by go_num, by rw [HE2.out, HVK.out]; simpa using H2.out, rfl, show _ = _ by rw [HE0.out, HVK.out]; simpa using HV0.out, below_drewN hb2 _⟩
        case measure => simp [intOf]; omega
      · have HVK : Hid (V k = 2) := hv
        rw [hv]
        clear hv
        go_wp2_with fail
        go_ret
        refine ⟨?_, below_drewN hb2 _⟩
        have h1 := HM2.out
        rw [HE2.out, HVK.out] at h1
        simp at h1
        unfold dV
        rw [if_pos (by omega)]
        rfl
    · have hkn2 : k = N := by omega
      subst hkn2
      go_wp2_with fail
      go_ret
      refine ⟨?_, hbel⟩
      unfold dV
      rw [if_neg (by rw [H2.out]; omega), ← HV0.out]
      rfl
end Go.Proofs.Ybulkdxow.B
