import Derived.Test.YbulkdxngR
namespace Go.Proofs.Ybulkdxng.D
open Go.RowKit
set_option linter.unusedVariables false

theorem Yba.info3 : (Yba.prog.info? 3).map (fun i => (i.zero, i.size, i.bytes)) = some (some (.int .i64 0), 1, 8) := by kernel_rfl

structure Blk.Lt (B : Blk) (top : Nat) : Prop where
  F : B.F < top
  bf : B.bf < top
  bt : B.bt < top
  bl : B.bl < top
  bb : B.bb < top
  bv : B.bv < top
  bn : B.bn < top
section
variable {B : Blk} {N : Net} {lev lev' : Nat → Int} {l : Nat → Int} {nx : Nat → Nat} {q q' : Value} {w w' w'' : World} {top : Nat}
theorem FW.on (h : FW B N lev l nx q w) (hB : B.Lt top) (hk : ∀ k, k < top → w'.heap[k]? = w.heap[k]?) : FW B N lev l nx q w' :=
  ⟨by rw [hk _ hB.F]; exact h.f, by rw [hk _ hB.bf]; exact h.first, by rw [hk _ hB.bt]; exact h.dest, by rw [hk _ hB.bl]; exact h.left, by rw [hk _ hB.bb]; exact h.back, by rw [hk _ hB.bv]; exact h.level, by rw [hk _ hB.bn]; exact h.next⟩
theorem FW.levCongr (h : FW B N lev l nx q w) (hl : ∀ v, v < N.V → lev v = lev' v) : FW B N lev' l nx q w :=
  ⟨h.f, h.first, h.dest, h.left, h.back, by rw [← row_congr hl]; exact h.level, h.next⟩
theorem FW.setLev (h : FW B N lev l nx q w) (hd : B.Dis) {v : Nat} (hv : v < N.V) (z : Int) : FW B N (upd lev v z) l nx q (w.setCell ⟨B.bv, v, none⟩ (.int .i64 z)) :=
  ⟨by rw [Below.heap_setCell _ _ _ _ hd.v1]; exact h.f, by rw [Below.heap_setCell _ _ _ _ hd.v2]; exact h.first, by rw [Below.heap_setCell _ _ _ _ hd.v3]; exact h.dest, by rw [Below.heap_setCell _ _ _ _ (Ne.symm hd.l5)]; exact h.left, by rw [Below.heap_setCell _ _ _ _ hd.v4]; exact h.back, by rw [heap_setCell h.level, set_row _ _ hv], by rw [Below.heap_setCell _ _ _ _ (Ne.symm hd.n5)]; exact h.next⟩
theorem FW.setQ (h : FW B N lev l nx q w) (hd : B.Dis) (q' : Value) : FW B N lev l nx q' (w.setCell ⟨B.F, 6, none⟩ q') :=
  ⟨by rw [heap_setCell h.f]; rfl, by rw [Below.heap_setCell _ _ _ _ hd.f1]; exact h.first, by rw [Below.heap_setCell _ _ _ _ hd.f2]; exact h.dest, by rw [Below.heap_setCell _ _ _ _ (Ne.symm hd.l1)]; exact h.left, by rw [Below.heap_setCell _ _ _ _ hd.f3]; exact h.back, by rw [Below.heap_setCell _ _ _ _ (Ne.symm hd.v1)]; exact h.level, by rw [Below.heap_setCell _ _ _ _ (Ne.symm hd.n1)]; exact h.next⟩
/-- what the search may change, below top -/
structure KeepR (B : Blk) (top : Nat) (w w' : World) : Prop where
  os : w'.os = w.os
  tape : w'.tape = w.tape
  output : w'.output = w.output
  size : w.heap.size ≤ w'.heap.size
  block : ∀ k, k < top → k ≠ B.F → k ≠ B.bv → w'.heap[k]? = w.heap[k]?
theorem KeepR.refl : KeepR B top w w := ⟨rfl, rfl, rfl, Nat.le_refl _, fun _ _ _ _ => rfl⟩
theorem KeepR.trans (h : KeepR B top w w') (k : KeepR B top w' w'') : KeepR B top w w'' := ⟨k.os.trans h.os, k.tape.trans h.tape, k.output.trans h.output, Nat.le_trans h.size k.size, fun i h0 h1 h2 => (k.block i h0 h1 h2).trans (h.block i h0 h1 h2)⟩
theorem KeepR.setLev (h : KeepR B top w w') (e : Nat) (v : Value) : KeepR B top w (w'.setCell ⟨B.bv, e, none⟩ v) := h.trans ⟨rfl, rfl, rfl, by simp [World.setCell], fun k _ _ h2 => Below.heap_setCell _ _ _ _ h2⟩
theorem KeepR.setQ (h : KeepR B top w w') (v : Value) : KeepR B top w (w'.setCell ⟨B.F, 6, none⟩ v) := h.trans ⟨rfl, rfl, rfl, by simp [World.setCell], fun k _ h1 _ => Below.heap_setCell _ _ _ _ h1⟩
theorem KeepR.drew1 (h : KeepR B top w w') : KeepR B top w w'.drew := h.trans ⟨rfl, rfl, rfl, Nat.le_refl _, fun _ _ _ _ => rfl⟩
theorem KeepR.below (h : KeepR B top w w') (k : Below top w' w'') : KeepR B top w w'' := h.trans ⟨k.os, k.tape, k.output, k.size, fun i h0 _ _ => k.block i h0⟩
end

/-- q[:0] -/
def cut0 : Value → Value
  | .slice a _ c => .slice a 0 c
  | v => v
theorem owns_cut0 {w : World} {base : Nat} {q : Value} {n : Nat} {xs : List Value} (h : w.ownsRow base 3 1 q n xs) : w.ownsRow base 3 1 (cut0 q) 0 [] := by
  refine ⟨rfl, ?_⟩
  rcases h.2 with ⟨rfl, _⟩ | ⟨g, cap, cur, rfl, h1, h2, h3, h4, h5, h6⟩
  · exact .inl ⟨rfl, rfl⟩
  · exact .inr ⟨g, cap, cur, rfl, h1, h2, Nat.zero_le _, h4, h5, by simp⟩
theorem run_cut0 {w : World} {base : Nat} {q : Value} {n : Nat} {xs : List Value} (h : w.ownsRow base 3 1 q n xs) (w' : World) : (Instr.slice 26 q none (some (.int .i64 0)) none).run Yba.prog w' = .ok (cut0 q) w' := by
  rcases h.2 with ⟨rfl, _⟩ | ⟨g, cap, cur, rfl, h1, h2, h3, h4, h5, h6⟩
  · simp [Instr.slice, cut0, go_sem]
  · simp [Instr.slice, cut0, go_sem]

theorem ownsRow_setCell_low {w : World} {base : Nat} {e : TypeId} {size : Nat} {v : Value} {n : Nat} {xs : List Value} (h : w.ownsRow base e size v n xs) {b o : Nat} (hb : b < base) (u : Value) : (w.setCell ⟨b, o, none⟩ u).ownsRow base e size v n xs :=
  ownsRow_setCell_below h (a := ⟨b, o, none⟩) hb u
theorem new_one (w : World) (a : Value) (t : TypeId) {S : Nat} (hS : S = w.heap.size) : ∀ (j : Nat) (u : Value), [a][j]? = some u → (w.alloc (.cells #[a] t)).cell? ((⟨S, 0, none⟩ : Addr).add j) = some u := by
  intro j u hj
  subst hS
  rw [Addr.add_lit, Nat.zero_add, World.cell?_alloc_new]
  match j, hj with
  | 0, hj => simpa using hj
def nodeV (x : Nat) : Value := .int .i64 (x : Int)

set_option maxRecDepth 100000 in
set_option maxHeartbeats 1600000 in
theorem reach_any {B : Blk} {N : Net} {top : Nat} (hN : N.OK) (hd : B.Dis) (hB : B.Lt top) (hV : N.V ≤ 900) (hE : N.E ≤ 1000000)
    (lev l : Nat → Int) (nx : Nat → Nat) (q : Value) (n : Nat) (xs : List Value) (w : World) (hfw : FW B N lev l nx q w) (hval : Val N l) (hq : w.ownsRow top 3 1 q n xs) (htop : top ≤ w.heap.size) :
    Calls Yba.prog 15 #[.pointer (some ⟨B.F, 0, none⟩)] w fun e w' => ∃ b lev' q' n' xs', e = .returned (.bool b) ∧ FW B N lev' l nx q' w' ∧ Found N l lev' b ∧ w'.ownsRow top 3 1 q' n' xs' ∧ KeepR B top w w' := by
  have hV2 := hN.two
  obtain ⟨i0, hi, hz0, hz1, hz2⟩ := info_parts Yba.info3
  have HF : Hid (FW B N lev l nx q w) := hfw
  have HQ : Hid (w.ownsRow top 3 1 q n xs) := hq
  have HVAL : Hid (Val N l) := hval
  obtain ⟨f0, f1, f2, f3, f4, f5, f6⟩ := hfw.cells
  clear hfw hq hval
  go_enter Yba.func15, Yba.ntmps15
  go_wp2_with fail
  clear f0 f1 f2 f3 f4 f5 f6
  go_loopw [14] (fun i wr => ∃ (k : Nat), k ≤ N.V ∧ i = .int .i64 k ∧ FW B N (fun v => if v < k then -1 else lev v) l nx q wr ∧ wr.ownsRow top 3 1 q n xs ∧ KeepR B top w wr) (fun i _ => N.V - (intOf i).toNat)
  case atStart => exact ⟨0, Nat.zero_le _, rfl, HF.out.levCongr (fun v _ => by simp), HQ.out, KeepR.refl⟩
  case round =>
    obtain ⟨k, hk, rfl, hfw, hq, hkeep⟩ := hrel
    obtain ⟨f0, f1, f2, f3, f4, f5, f6⟩ := hfw.cells
    have HFR : Hid (FW B N (fun v => if v < k then -1 else lev v) l nx q wr) := hfw
    have HQR : Hid (wr.ownsRow top 3 1 q n xs) := hq
    have HKR : Hid (KeepR B top w wr) := hkeep
    clear hfw hq hkeep
    by_cases hkv : k < N.V
    · have c1 := cell_row HFR.out.level hkv
      have z1 := frozen_row HFR.out.level k
      have hkv' : (k : Int) < (N.V : Int) := by omega
      go_wp2_with fail
      go_roundw
      case rel =>
        refine ⟨k + 1, by omega, by go_num, (HFR.out.setLev hd hkv (-1)).levCongr (fun v _ => ?_), ownsRow_setCell_low HQR.out hB.bv _, HKR.out.setLev _ _⟩
        by_cases h1 : v = k
        · subst h1; rw [upd_same, if_pos (by omega)]
        · rw [upd_ne _ _ h1]
          by_cases h2 : v < k
          · rw [if_pos h2, if_pos (by omega)]
          · rw [if_neg h2, if_neg (by omega)]
      case measure => simp [intOf]; omega
    · have hkv2 : k = N.V := by omega
      subst hkv2
      have h0V : 0 < N.V := by omega
      have hfw1 : FW B N (fun _ => -1) l nx q wr := HFR.out.levCongr (fun v hv => by simp [hv])
      have HF1 : Hid (FW B N (fun _ => -1) l nx q wr) := hfw1
      have c1 := cell_row hfw1.level h0V
      have z1 := frozen_row hfw1.level 0
      have z2 := frozen_row hfw1.f 6
      have hsl := run_cut0 HQR.out
      have hq0 := owns_cut0 HQR.out
      generalize cut0 q = q0 at *
      have HQ0 : Hid (wr.ownsRow top 3 1 q0 0 []) := hq0
      have hszr : top ≤ wr.heap.size := Nat.le_trans htop HKR.out.size
      clear hfw1 HFR hq0
      go_wp2_with (at_builtin; refine wpList_append_own _ rfl (.tmp 40) (.tmp 41) 26 rfl top 3 i0 (.int .i64 0) 1 8 Yba.underlying26 hi hz0 hz1 hz2 rfl (by decide) q0 0 [] rfl ((ownsRow_setCell_low HQ0.out hB.bv _).alloc _) ⟨wr.heap.size, 0, none⟩ 1 1 [.int .i64 0] rfl rfl ?c1 ?c2 (by unfold maxLen; omega) (by omega) (by simp [World.setCell]; omega) ?_)
      case c1 => exact new_one _ _ _ (by simp [World.setCell])
      case c2 => intro x hx; simp at hx; subst hx; rfl
      intro v' w2 hown' hgrow hnn
      have hex : ∃ g2 cap2, v' = .slice (some ⟨g2, 0, none⟩) 1 cap2 := by
        rcases hown'.2 with ⟨rfl, hz⟩ | ⟨g2, cap2, cur, rfl, _⟩
        · simp at hnn
        · exact ⟨g2, cap2, rfl⟩
      obtain ⟨g2, cap2, hv⟩ := hex
      rw [hv] at hown' ⊢
      have hown0 := (ownsRow_setCell_low HQ0.out hB.bv (o := 0) (.int .i64 0)).alloc (Obj.cells #[Value.int IntKind.i64 0] 3)
      have hb2 : Below top (wr.setCell ⟨B.bv, 0, none⟩ (.int .i64 0)) w2 := ((Below.refl _ _).alloc (by simp [World.setCell]; omega) _).grown hgrow (by simp [World.setCell]; omega) (fun r hr => (hown0.lt r hr).1)
      have hf2 : FW B N (upd (fun _ => -1) 0 0) l nx q w2 := (HF1.out.setLev hd h0V 0).on hB (fun k hk => hb2.block k hk)
      have hk2 : KeepR B top w w2 := (HKR.out.setLev 0 (.int .i64 0)).below hb2
      have HF2 : Hid (FW B N (upd (fun _ => -1) 0 0) l nx q w2) := hf2
      have HK2 : Hid (KeepR B top w w2) := hk2
      have HO2 : Hid (w2.ownsRow top 3 1 (.slice (some ⟨g2, 0, none⟩) 1 cap2) 1 [.int .i64 0]) := hown'
      obtain ⟨f0', f1', f2', f3', f4', f5', f6'⟩ := hf2.cells
      have z3 := frozen_row hf2.f 6
      clear hown' hgrow hnn hv hown0 hb2 hf2 hk2 f0 f1 f2 f3 f4 f5 f6 c1 z1 z2 hsl
      go_wp2_with fail
      clear f0' f1' f2' f3' f4' f5' f6' z3
      go_loopw [5] (fun i wr => ∃ (h : Nat) (lv : Nat → Int) (Q : List Nat) (g cap : Nat), i = .int .i64 h ∧ h ≤ Q.length ∧ FW B N lv l nx (.slice (some ⟨g, 0, none⟩) Q.length cap) wr ∧ wr.ownsRow top 3 1 (.slice (some ⟨g, 0, none⟩) Q.length cap) Q.length (Q.map nodeV) ∧ RI N l lv Q h ∧ KeepR B top w wr) (fun i _ => N.V - (intOf i).toNat)
      case atStart => exact ⟨0, _, [0], g2, cap2, rfl, by simp, HF2.out.setQ hd _, ownsRow_setCell_low HO2.out hB.F _, RI.start hN, HK2.out.setQ _⟩
      case round =>
        clear HF1 HKR HQ0 HF2 HK2 HO2 HQR hszr
        obtain ⟨h, lv, Q, g, cap, rfl, hh, hfw, hown, hri, hkeep⟩ := hrel
        have hQV := hri.lt (by omega)
        obtain ⟨f0, f1, f2, f3, f4, f5, f6⟩ := hfw.cells
        have HFR : Hid (FW B N lv l nx (.slice (some ⟨g, 0, none⟩) Q.length cap) wr) := hfw
        have HO : Hid (wr.ownsRow top 3 1 (.slice (some ⟨g, 0, none⟩) Q.length cap) Q.length (Q.map nodeV)) := hown
        have HRI : Hid (RI N l lv Q h) := hri
        have HKR : Hid (KeepR B top w wr) := hkeep
        have hszr : top ≤ wr.heap.size := Nat.le_trans htop hkeep.size
        clear hfw hri hkeep
        by_cases hhq : h < Q.length
        · obtain ⟨u, hu⟩ : ∃ u, Q[h]? = some u := ⟨Q[h], List.getElem?_eq_getElem hhq⟩
          have cq := hown.cells (g := g) rfl h (nodeV u) (by rw [List.getElem?_map, hu]; rfl)
          rw [Addr.add_lit, Nat.zero_add] at cq
          have hcq : wr.cell? ⟨g, h, none⟩ = some (.int .i64 (u : Int)) := cq
          have HU : Hid (Q[h]? = some u) := hu
          obtain ⟨uV, us, u0⟩ := HRI.out.q_in u (List.mem_of_getElem? hu)
          have hhq' : (h : Int) < (Q.length : Int) := by omega
          have c1 := cell_rowN HFR.out.first (show u < N.V + 1 by omega)
          have uV' : (u : Int) < (N.V : Int) + 1 := by omega
          have uVi : (u : Int) < (N.V : Int) := by omega
          have m1 := hN.mono u uV
          have m2 := hN.top (u + 1) (by omega)
          clear cq hu hown
          go_wp2_with fail
          clear f0 f1 f2 f3 f4 f5 f6 c1 hcq
          go_loopw [7] (fun i wr => ∃ (e : Nat) (lv : Nat → Int) (Q : List Nat) (g cap : Nat), i = .int .i64 e ∧ N.first u ≤ e ∧ e ≤ N.first (u + 1) ∧ FW B N lv l nx (.slice (some ⟨g, 0, none⟩) Q.length cap) wr ∧ wr.ownsRow top 3 1 (.slice (some ⟨g, 0, none⟩) Q.length cap) Q.length (Q.map nodeV) ∧ RI N l lv Q h ∧ Q[h]? = some u ∧ (∀ e', N.first u ≤ e' → e' < e → 0 < l e' → 0 ≤ lv (N.to e')) ∧ KeepR B top w wr) (fun i _ => N.first (u + 1) - (intOf i).toNat)
          case atStart => exact ⟨N.first u, lv, Q, g, cap, rfl, Nat.le_refl _, m1, HFR.out, HO.out, HRI.out, HU.out, fun e' h1 h2 => by omega, HKR.out⟩
          case round =>
            clear HFR HO HRI HU HKR hszr hhq hhq' hQV hh u0
            obtain ⟨e, lv, Q, g, cap, rfl, he1, he2, hfw, hown, hri, hu, hdone, hkeep⟩ := hrel
            have hQV := hri.lt (by omega)
            obtain ⟨f0, f1, f2, f3, f4, f5, f6⟩ := hfw.cells
            have HFR : Hid (FW B N lv l nx (.slice (some ⟨g, 0, none⟩) Q.length cap) wr) := hfw
            have HO : Hid (wr.ownsRow top 3 1 (.slice (some ⟨g, 0, none⟩) Q.length cap) Q.length (Q.map nodeV)) := hown
            have HRI : Hid (RI N l lv Q h) := hri
            have HKR : Hid (KeepR B top w wr) := hkeep
            have HU : Hid (Q[h]? = some u) := hu
            have HDN : Hid (∀ e', N.first u ≤ e' → e' < e → 0 < l e' → 0 ≤ lv (N.to e')) := hdone
            have hszr : top ≤ wr.heap.size := Nat.le_trans htop hkeep.size
            have c1 := cell_rowN hfw.first (show u + 1 < N.V + 1 by omega)
            have hu1 : ((u + 1 : Nat) : Int) = (u : Int) + 1 := by omega
            obtain ⟨_, _, u0⟩ := hri.q_in u (List.mem_of_getElem? hu)
            clear hfw hown hri hkeep hu hdone
            by_cases hlast : e < N.first (u + 1)
            · have heE : e < N.E := by omega
              have hlast' : (e : Int) < (N.first (u + 1) : Int) := by omega
              have heE' : (e : Int) < (N.E : Int) := by omega
              have hown := hN.slot u e uV he1 hlast
              have HOWN : Hid (N.own e = u) := hown
              have htl := hN.to_lt e heE
              have c2 := cell_rowN HFR.out.dest heE
              have c3 := cell_row HFR.out.left heE
              have c4 := cell_row HFR.out.level htl
              clear hown
              by_cases hp : 0 < l e
              · by_cases hneg : lv (N.to e) < 0
                · have hd1 : decide (0 < l e) = true := by simp [hp]
                  have c5 := cell_row HFR.out.level uV
                  have z1 := frozen_row HFR.out.level (N.to e)
                  have hlu := HRI.out.lev_le uV
                  go_wp2_with fail
                  go_region
                  have hfw1 := (HFR.out.setLev hd htl (lv u + 1)).drew1
                  have hkr1 := (HKR.out.setLev (N.to e) (.int .i64 (lv u + 1))).drew1
                  have hown1 : ((wr.setCell ⟨B.bv, N.to e, none⟩ (.int .i64 (lv u + 1))).drew).ownsRow top 3 1 (.slice (some ⟨g, 0, none⟩) Q.length cap) Q.length (Q.map nodeV) := (ownsRow_setCell_low HO.out hB.bv _).drew
                  clear f0 f1 f2 f3 f4 f5 f6 c1 c2 c3 c4 c5 z1
                  generalize (wr.setCell ⟨B.bv, N.to e, none⟩ (.int .i64 (lv u + 1))).drew = W1 at *
                  have HF1 : Hid (FW B N (upd lv (N.to e) (lv u + 1)) l nx (.slice (some ⟨g, 0, none⟩) Q.length cap) W1) := hfw1
                  have HK1 : Hid (KeepR B top w W1) := hkr1
                  have HO1 : Hid (W1.ownsRow top 3 1 (.slice (some ⟨g, 0, none⟩) Q.length cap) Q.length (Q.map nodeV)) := hown1
                  obtain ⟨f0, f1, f2, f3, f4, f5, f6⟩ := hfw1.cells
                  have z2 := frozen_row hfw1.f 6
                  have hsz1 : top ≤ W1.heap.size := Nat.le_trans htop hkr1.size
                  clear hfw1 hkr1 hown1
                  by_cases hsk : N.to e = N.sink
                  · have hsk' : ((N.to e : Nat) : Int) = (N.V : Int) - 1 := by rw [hsk]; unfold Net.sink; omega
                    have HSK : Hid (N.to e = N.sink) := hsk
                    clear hsk
                    have hskb : (((N.to e : Nat) : Int) == (N.V : Int) - 1) = true := by simpa using hsk'
                    clear hsk'
                    go_wp2_with fail
                    go_ret
                    exact ⟨true, _, _, _, _, rfl, HF1.out, by rw [HSK.out]; exact HRI.out.yes hN (by omega) heE HOWN.out HU.out hp HSK.out, HO1.out, HK1.out⟩
                  · have hsk' : ¬ ((N.to e : Nat) : Int) = (N.V : Int) - 1 := by unfold Net.sink at hsk; omega
                    have HSK : Hid (N.to e ≠ N.sink) := hsk
                    have hskb : (((N.to e : Nat) : Int) == (N.V : Int) - 1) = false := by simpa using hsk'
                    clear hsk hsk'
                    have hM := HRI.out.more hN heE HOWN.out HU.out hp HSK.out hneg
                    have HMR : Hid (RI N l (upd lv (N.to e) (lv u + 1)) (Q ++ [N.to e]) h) := hM.1
                    have HMK : Hid (∀ v, 0 ≤ lv v → 0 ≤ upd lv (N.to e) (lv u + 1) v) := hM.2.1
                    clear hM
                    go_wp2_with (at_builtin; refine wpList_append_own _ rfl (.tmp 126) (.tmp 128) 26 rfl top 3 i0 (.int .i64 0) 1 8 Yba.underlying26 hi hz0 hz1 hz2 rfl (by decide) _ Q.length _ rfl (HO1.out.alloc _) ⟨W1.heap.size, 0, none⟩ 1 1 [.int .i64 (N.to e : Int)] rfl rfl ?c1 ?c2 (by unfold maxLen; omega) (by omega) (by simp; omega) ?_)
                    case c1 => exact new_one _ _ _ rfl
                    case c2 => intro x hx; simp at hx; subst hx; rfl
                    intro v' w2 hown' hgrow hnn
                    have hex : ∃ g2 cap2, v' = .slice (some ⟨g2, 0, none⟩) (Q.length + 1) cap2 := by
                      rcases hown'.2 with ⟨rfl, hz⟩ | ⟨g2, cap2, cur, rfl, _⟩
                      · simp at hnn
                      · exact ⟨g2, cap2, rfl⟩
                    obtain ⟨g2, cap2, hv⟩ := hex
                    rw [hv] at hown' ⊢
                    have hb2 : Below top W1 w2 := ((Below.refl _ _).alloc hsz1 _).grown hgrow (by simp; omega) (by intro r hr; simp [Value.ownBlock] at hr; have := (HO1.out.lt g rfl).1; omega)
                    have hf2 := HF1.out.on hB (w' := w2) (fun k hk => hb2.block k hk)
                    have hk2 : KeepR B top w w2 := HK1.out.below hb2
                    have hl2 : (Q ++ [N.to e]).length = Q.length + 1 := by simp
                    have hO2 : w2.ownsRow top 3 1 (.slice (some ⟨g2, 0, none⟩) (Q ++ [N.to e]).length cap2) (Q ++ [N.to e]).length ((Q ++ [N.to e]).map nodeV) := by
                      rw [hl2, List.map_append]; exact hown'
                    have HF2 : Hid (FW B N (upd lv (N.to e) (lv u + 1)) l nx (.slice (some ⟨g, 0, none⟩) Q.length cap) w2) := hf2
                    have HK2 : Hid (KeepR B top w w2) := hk2
                    have HO2 : Hid (w2.ownsRow top 3 1 (.slice (some ⟨g2, 0, none⟩) (Q ++ [N.to e]).length cap2) (Q ++ [N.to e]).length ((Q ++ [N.to e]).map nodeV)) := hO2
                    have HL2 : Hid ((Q ++ [N.to e]).length = Q.length + 1) := hl2
                    obtain ⟨f0', f1', f2', f3', f4', f5', f6'⟩ := hf2.cells
                    have z3 := frozen_row hf2.f 6
                    clear hown' hgrow hnn hv hb2 hf2 hk2 hl2 hO2 f0 f1 f2 f3 f4 f5 f6 z2 HO1 HO
                    go_wp2_with fail
                    go_roundw
                    case rel =>
                      refine ⟨e + 1, upd lv (N.to e) (lv u + 1), Q ++ [N.to e], g2, cap2, by go_num, by omega, by omega, by rw [HL2.out]; exact HF2.out.setQ hd _, ownsRow_setCell_low HO2.out hB.F _, HMR.out, ?_, fun e' h1 h2 h3 => ?_, HK2.out.setQ _⟩
                      · have hhq : h < Q.length := by
                          rcases Nat.lt_or_ge h Q.length with h1 | h1
                          · exact h1
                          · have := HU.out; rw [List.getElem?_eq_none h1] at this; cases this
                        rw [List.getElem?_append_left hhq]; exact HU.out
                      · by_cases h4 : e' = e
                        · subst h4; rw [upd_same]; omega
                        · exact HMK.out _ (HDN.out e' h1 (by omega) h3)
                    case measure => simp [intOf]; omega
                · have hd1 : decide (0 < l e) = true := by simp [hp]
                  go_wp2_with fail
                  go_roundw
                  case rel =>
                    refine ⟨e + 1, lv, Q, g, cap, by go_num, by omega, by omega, HFR.out, HO.out, HRI.out, HU.out, fun e' h1 h2 h3 => ?_, HKR.out⟩
                    by_cases h4 : e' = e
                    · subst h4; omega
                    · exact HDN.out e' h1 (by omega) h3
                  case measure => simp [intOf]; omega
              · have hd1 : decide (0 < l e) = false := by simp [hp]
                go_wp2_with fail
                go_roundw
                case rel =>
                  refine ⟨e + 1, lv, Q, g, cap, by go_num, by omega, by omega, HFR.out, HO.out, HRI.out, HU.out, fun e' h1 h2 h3 => ?_, HKR.out⟩
                  by_cases h4 : e' = e
                  · subst h4; omega
                  · exact HDN.out e' h1 (by omega) h3
                case measure => simp [intOf]; omega
            · have hhq : h < Q.length := by
                rcases Nat.lt_or_ge h Q.length with h1 | h1
                · exact h1
                · have := HU.out; rw [List.getElem?_eq_none h1] at this; cases this
              have hle : e = N.first (u + 1) := by omega
              subst hle
              have HNX : Hid (RI N l lv Q (h + 1)) := HRI.out.next hN HU.out (fun e' he' ho hp => by
                have h1 := hN.own_lo e' he'
                have h2 := hN.own_hi e' he'
                rw [ho] at h1 h2
                exact HDN.out e' h1 h2 hp)
              go_wp2_with fail
              go_roundw
              case rel => exact ⟨h + 1, lv, Q, g, cap, by go_num, by omega, HFR.out, HO.out, HNX.out, HKR.out⟩
              case measure => simp [intOf]; omega
        · go_wp2_with fail
          go_ret
          exact ⟨false, lv, _, _, _, rfl, HFR.out, HRI.out.no hN (by omega) (by omega), HO.out, HKR.out⟩
end Go.Proofs.Ybulkdxng.D
