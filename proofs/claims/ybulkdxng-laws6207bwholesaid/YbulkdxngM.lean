import Derived.Test.YbulkdxngK
namespace Go.Proofs.Ybulkdxng.D
open Go.RowKit
set_option linter.unusedVariables false
theorem Yba.info26 : (Yba.prog.info? 26).map (fun i => (i.zero, i.size, i.bytes)) = some (some (.slice none 0 0), 1, 24) := by kernel_rfl

set_option maxRecDepth 100000 in
set_option maxHeartbeats 6400000 in
theorem lawB_any (D : Dt) (hD : D.OK) (x0 x1 x2 : Option Addr) (n0 c0 n1 c1 n2 c2 : Nat) (f0 f2 : Nat → Int) (kx : Nat → Option Addr) (kn kc : Nat → Nat) (kb : Nat → Nat → Int) (hdi : DIn D n0 n1 n2 f0 f2 kn kb) (w : World)
    (h0 : InI w x0 n0 f0) (h1 : InK w x1 n1 kx kn kc kb) (h2 : InI w x2 n2 f2) :
    Calls Yba.prog 3 #[.slice x0 n0 c0, .slice x1 n1 c1, .slice x2 n2 c2] w fun e w' => e = .returned (.bool true) ∧ Below w.heap.size w w' := by
  have hn := hD.n
  have hk := hD.k
  have H0 : Hid (InI w x0 n0 f0) := h0
  have H1 : Hid (InK w x1 n1 kx kn kc kb) := h1
  have H2 : Hid (InI w x2 n2 f2) := h2
  have HDI : Hid (DIn D n0 n1 n2 f0 f2 kn kb) := hdi
  clear h0 h1 h2 hdi
  go_enter Yba.func3, Yba.ntmps3
  go_upto_if 43 with fail
  go_cut [7] from 42 to 43 (fun t wc => t = .int .i64 (D.n : Int) ∧ w = wc)
  case first =>
    by_cases h : 12 < n0
    · have h' : (12 : Int) < (n0 : Int) := by omega
      go_wp2_with fail
      go_meet
      exact ⟨congrArg (Value.int .i64) (by have := HDI.out.n; have := HDI.out.k; omega), rfl⟩
    · have h' : ¬ (12 : Int) < (n0 : Int) := by omega
      go_wp2_with fail
      go_meet
      exact ⟨congrArg (Value.int .i64) (by have := HDI.out.n; have := HDI.out.k; omega), rfl⟩
  case rest =>
  obtain ⟨rfl, rfl⟩ := hcut
  go_upto_if 47 with fail
  go_cut [8] from 46 to 47 (fun t wc => t = .int .i64 (D.k : Int) ∧ w = wc)
  case first =>
    by_cases h : 64 < n2
    · have h' : (64 : Int) < (n2 : Int) := by omega
      go_wp2_with fail
      go_meet
      exact ⟨congrArg (Value.int .i64) (by have := HDI.out.n; have := HDI.out.k; omega), rfl⟩
    · have h' : ¬ (64 : Int) < (n2 : Int) := by omega
      go_wp2_with fail
      go_meet
      exact ⟨congrArg (Value.int .i64) (by have := HDI.out.n; have := HDI.out.k; omega), rfl⟩
  case rest =>
  obtain ⟨rfl, rfl⟩ := hcut
  have hmk1 : ∀ w : World, (Instr.makeSlice 22 (.int .i64 (D.n : Int)) (.int .i64 (D.n : Int))).run Yba.prog w = .ok (.slice (some ⟨w.heap.size, 0, none⟩) D.n D.n) (w.alloc (.cells (row D.n fun _ => 0) 2)) := by
    intro w
    have h := run_make_n (P := Yba.prog) 22 2 _ _ _ Yba.underlying22 Yba.infoI2 D.n (by omega) (by omega) w
    rwa [made_row2] at h
  have hmk2 : ∀ w : World, (Instr.makeSlice 22 (.int .i64 (D.k : Int)) (.int .i64 (D.k : Int))).run Yba.prog w = .ok (.slice (some ⟨w.heap.size, 0, none⟩) D.k D.k) (w.alloc (.cells (row D.k fun _ => 0) 2)) := by
    intro w
    have h := run_make_n (P := Yba.prog) 22 2 _ _ _ Yba.underlying22 Yba.infoI2 D.k (by omega) (by omega) w
    rwa [made_row2] at h
  have hmk3 : ∀ w : World, (Instr.makeSlice 24 (.int .i64 (D.n : Int)) (.int .i64 (D.n : Int))).run Yba.prog w = .ok (.slice (some ⟨w.heap.size, 0, none⟩) D.n D.n) (w.alloc (.cells (rowS D.n (fun _ => none) fun _ => 0) 26)) := by
    intro w
    have h := run_make_n (P := Yba.prog) 24 26 _ _ _ Yba.underlying24 Yba.info26 D.n (by omega) (by omega) w
    rwa [made_rowV _ rfl] at h
  go_wp2_with fail
  clear hmk1
  go_loopw [10] (fun i wr => ∃ (j : Nat), j ≤ D.n ∧ i = .int .i64 j ∧ W1 w D.n (fun x => if x < j then D.w x else 0) wr) (fun i _ => D.n - (intOf i).toNat)
  case atStart => exact ⟨0, Nat.zero_le _, rfl, (W1.start w D.n).congr (fun i _ => by simp)⟩
  case round =>
    obtain ⟨j, hj, rfl, hw1⟩ := hrel
    have HW : Hid (W1 w D.n (fun x => if x < j then D.w x else 0) wr) := hw1
    clear hw1
    by_cases hjn : j < D.n
    · have hjn' : (j : Int) < (D.n : Int) := by omega
      have hjn0 : j < n0 := by have := HDI.out.n; omega
      have hjn2 : (j : Int) < (n0 : Int) := by omega
      obtain ⟨b, o, rfl, hb, c1⟩ := H0.out.at HW.out.below hjn0
      have c2 := cell_row HW.out.ws hjn
      have z2 := frozen_row HW.out.ws
      have hwj := HDI.out.w j hjn
      go_wp2_with fail
      go_roundw
      case rel =>
        have h := (HW.out.set hjn (D.w j)).congr (fun i _ => upto_step D.w j i)
        rw [hwj] at h
        exact ⟨j + 1, by omega, by go_num, h⟩
      case measure => simp [intOf]; omega
    · have hjn3 : j = D.n := by omega
      subst hjn3
      have hszr := HW.out.size
      go_wp2_with fail
      clear hmk2
      go_loopw [12] (fun i wr => ∃ (j : Nat), j ≤ D.k ∧ i = .int .i64 j ∧ W2 w D.n D.k D.w (fun x => if x < j then D.c x else 0) wr) (fun i _ => D.k - (intOf i).toNat)
      case atStart => exact ⟨0, Nat.zero_le _, rfl, ((HW.out.congr (g' := D.w) (fun i hi => by rw [if_pos hi])).two D.k).congr (fun i _ => by simp)⟩
      case round =>
        clear HW hszr
        obtain ⟨i, hi, rfl, hw2⟩ := hrel
        have HW : Hid (W2 w D.n D.k D.w (fun x => if x < i then D.c x else 0) wr) := hw2
        clear hw2
        by_cases hik : i < D.k
        · have hik' : (i : Int) < (D.k : Int) := by omega
          have hik0 : i < n2 := by have := HDI.out.k; omega
          have hik2 : (i : Int) < (n2 : Int) := by omega
          obtain ⟨b, o, rfl, hb, c1⟩ := H2.out.at HW.out.below hik0
          have c2 := cell_row HW.out.cs hik
          have z2 := frozen_row HW.out.cs
          have hwj := HDI.out.c i hik
          go_wp2_with fail
          go_roundw
          case rel =>
            have h := (HW.out.set hik (D.c i)).congr (fun x _ => upto_step D.c i x)
            rw [hwj] at h
            exact ⟨i + 1, by omega, by go_num, h⟩
          case measure => simp [intOf]; omega
        · have hik3 : i = D.k := by omega
          subst hik3
          have hszr := HW.out.size
          go_wp2_with fail
          clear hmk3
          go_loopw [14] (fun i wr => ∃ (j : Nat) (cx : Nat → Option Addr) (cm : Nat → Nat), j ≤ D.n ∧ i = .int .i64 j ∧ KW w D j wr.heap.size cx cm wr ∧ cx j = none ∧ cm j = 0) (fun i _ => D.n - (intOf i).toNat)
          case atStart => exact ⟨0, _, _, Nat.zero_le _, rfl, KW.start (HW.out.congr (h' := D.c) (fun i hi => by rw [if_pos hi])), rfl, rfl⟩
          case round =>
            clear HW hszr
            obtain ⟨j, cx, cm, hj, rfl, hkw, hcx, hcm⟩ := hrel
            have HW : Hid (KW w D j wr.heap.size cx cm wr) := hkw
            have HCX : Hid (cx j = none) := hcx
            have HCM : Hid (cm j = 0) := hcm
            clear hkw hcx hcm
            by_cases hjn : j < D.n
            · have hjn' : (j : Int) < (D.n : Int) := by omega
              have hmj := HDI.out.m j hjn
              by_cases hc : j < n1 ∧ 0 < D.k
              · have hc1 : (j : Int) < (n1 : Int) := by omega
                have hc2 : (0 : Int) < (D.k : Int) := by omega
                have hc3 : ¬ (D.k : Int) = 0 := by omega
                rw [if_pos hc] at hmj
                have HMJ : Hid (D.m j = min (kn j) 32) := hmj
                clear hmj
                obtain ⟨b1, o1, rfl, hb1, k1, hu⟩ := H1.out.at HW.out.below hc.1
                have HU : Hid (InU w (kx j) (kn j) (kb j)) := hu
                clear hu
                have hcd1 : decide ((j : Int) < (n1 : Int)) = true := decide_eq_true hc1
                have hcd2 : decide ((0 : Int) < (D.k : Int)) = true := decide_eq_true hc2
                go_upto_if 100 with fail
                go_cut [16] from 99 to 100 (fun t wc => t = .int .i64 (D.m j : Int) ∧ wr = wc)
                case first =>
                  by_cases h : 32 < kn j
                  · have h' : (32 : Int) < (kn j : Int) := by omega
                    go_wp2_with fail
                    go_meet
                    exact ⟨congrArg (Value.int .i64) (by have := HMJ.out; omega), rfl⟩
                  · have h' : ¬ (32 : Int) < (kn j : Int) := by omega
                    go_wp2_with fail
                    go_meet
                    exact ⟨congrArg (Value.int .i64) (by have := HMJ.out; omega), rfl⟩
                case rest =>
                obtain ⟨rfl, rfl⟩ := hcut
                have hm32 : D.m j ≤ 32 := hD.m j hjn
                have hmk4 : ∀ w : World, (Instr.makeSlice 26 (.int .i64 (D.m j : Int)) (.int .i64 (D.m j : Int))).run Yba.prog w = .ok (.slice (some ⟨w.heap.size, 0, none⟩) (D.m j) (D.m j)) (w.alloc (.cells (rowN (D.m j) fun _ => 0) 3)) := by
                  intro w
                  have h := run_make_n (P := Yba.prog) 26 3 _ _ _ Yba.underlying26 Yba.info3 (D.m j) (by omega) (by omega) w
                  rwa [made_row] at h
                have c2 := cell_rowV HW.out.ks hjn
                have z2 := frozen_row HW.out.ks
                have hl1 : w.heap.size + 2 < wr.heap.size := by have := HW.out.low; omega
                have hl2 : ¬ w.heap.size + 2 = wr.heap.size := by omega
                go_wp2_with fail
                obtain ⟨hka, hkb⟩ := HW.out.make hjn (D.m j) (.cells (rowN (D.m j) fun _ => 0) 3)
                have HK : Hid (_ ∧ _) := ⟨hka, hkb⟩
                have hltB : w.heap.size + 2 < wr.heap.size := hl1
                have HB3 : Hid (w.heap.size + 3 ≤ wr.heap.size) := by have := HW.out.low; exact this
                clear hka hkb c2 z2 hmk4 k1 HW HCX HCM hl1 hl2
                obtain ⟨wk, rfl⟩ : ∃ x : World, x = wr := ⟨_, rfl⟩
                go_loopw [17] (fun i wx => ∃ (t : Nat), t ≤ D.m j ∧ i = .int .i64 t ∧ KW w D j wk.heap.size (fun x => if x = j then some ⟨wk.heap.size, 0, none⟩ else cx x) (updN cm j (D.m j)) wx ∧ wx.heap[wk.heap.size]? = some (.cells (rowN (D.m j) fun x => if x < t then D.kd j x else 0) 3 (0, 0))) (fun i _ => D.m j - (intOf i).toNat)
                case atStart => exact ⟨0, Nat.zero_le _, rfl, HK.out.1, by rw [HK.out.2]; congr 2⟩
                case round =>
                  clear HK
                  obtain ⟨t, ht, rfl, hkw, hrow⟩ := hrel
                  have HK : Hid (KW w D j wk.heap.size (fun x => if x = j then some ⟨wk.heap.size, 0, none⟩ else cx x) (updN cm j (D.m j)) wr) := hkw
                  have HRW : Hid (wr.heap[wk.heap.size]? = some (.cells (rowN (D.m j) fun x => if x < t then D.kd j x else 0) 3 (0, 0))) := hrow
                  clear hkw hrow
                  by_cases htm : t < D.m j
                  · have htm' : (t : Int) < (D.m j : Int) := by omega
                    have htk : t < kn j := by have := HMJ.out; omega
                    have htk' : (t : Int) < (kn j : Int) := by omega
                    obtain ⟨b, o, hX, hb, c3, hb0, hb1⟩ := HU.out.at HK.out.below htk
                    have c1 : wr.cell? ⟨w.heap.size + 2, j, none⟩ = some (.slice (some ⟨wk.heap.size, 0, none⟩) (D.m j) (D.m j)) := by
                      rw [cell_rowV HK.out.ks hjn]
                      simp [updN]
                    have c2 := cell_rowN HRW.out htm
                    have z2 := frozen_row HRW.out
                    have hkd := (HDI.out.kd j t hjn htm).symm
                    have hkl := hD.kd j t hjn htm
                    have hne1 : ¬ w.heap.size + 2 = wk.heap.size := by omega
                    rw [hX]
                    go_wp2_with fail
                    go_region
                    go_wp2_with fail
                    go_roundw
                    case rel =>
                      refine ⟨t + 1, by omega, by go_num, (HK.out.set (Nat.le_refl _) _ _).drew, ?_⟩
                      show (wr.setCell ⟨wk.heap.size, t, none⟩ (.int .i64 (D.kd j t : Int))).heap[wk.heap.size]? = _
                      rw [heap_setCell HRW.out, set_rowN _ _ htm]
                      exact congrArg (fun r => some (Obj.cells r 3 (0, 0))) (rowN_congr fun x _ => uptoN_step (D.kd j) t x)
                    case measure => simp [intOf]; omega
                  · have ht2 : t = D.m j := by omega
                    subst ht2
                    go_wp2_with fail
                    go_roundw
                    case rel =>
                      have hrow : wr.heap[wk.heap.size]? = some (.cells (rowN (D.m j) (D.kd j)) 3 (0, 0)) := by
                        rw [HRW.out]
                        exact congrArg (fun r => some (Obj.cells r 3 (0, 0))) (rowN_congr fun x hx => if_pos hx)
                      have hf := HK.out.fill (by simp) (by rw [updN_same]) hrow
                      exact ⟨j + 1, _, _, by omega, by go_num, hf, (HK.out.todo (j + 1) (by omega)).1, (HK.out.todo (j + 1) (by omega)).2⟩
                    case measure => simp [intOf]; omega
              · rw [if_neg hc] at hmj
                have HMJ : Hid (D.m j = 0) := hmj
                clear hmj
                by_cases hc1 : j < n1
                · have hc2 : (j : Int) < (n1 : Int) := by omega
                  have hc3 : ¬ (0 : Int) < (D.k : Int) := by omega
                  have hcd1 : decide ((j : Int) < (n1 : Int)) = true := decide_eq_true hc2
                  have hcd2 : decide ((0 : Int) < (D.k : Int)) = false := decide_eq_false hc3
                  go_wp2_with fail
                  go_roundw
                  case rel => exact ⟨j + 1, _, _, by omega, by go_num, HW.out.pass HMJ.out HCM.out, (HW.out.todo (j + 1) (by omega)).1, (HW.out.todo (j + 1) (by omega)).2⟩
                  case measure => simp [intOf]; omega
                · have hc2 : ¬ (j : Int) < (n1 : Int) := by omega
                  have hcd1 : decide ((j : Int) < (n1 : Int)) = false := decide_eq_false hc2
                  go_wp2_with fail
                  go_roundw
                  case rel => exact ⟨j + 1, _, _, by omega, by go_num, HW.out.pass HMJ.out HCM.out, (HW.out.todo (j + 1) (by omega)).1, (HW.out.todo (j + 1) (by omega)).2⟩
                  case measure => simp [intOf]; omega
            · have hjn3 : j = D.n := by omega
              subst hjn3
              have HN : Hid (NIn D w.heap.size (w.heap.size + 2) (w.heap.size + 1) cx D.m wr) := HW.out.nin
              have HBE : Hid (Below w.heap.size w wr ∧ w.heap.size + 3 ≤ wr.heap.size) := ⟨HW.out.below, HW.out.low⟩
              clear HW HCX HCM H0 H1 H2 HDI
              have hEl := D.E_le hD
              have hV3 : D.V ≤ 78 := by unfold Dt.V; omega
              have hV2 : 2 ≤ D.V := by unfold Dt.V; omega
              go_wp2_with fail
              refine (newFlow_any D hD w.heap.size (w.heap.size + 2) (w.heap.size + 1) D.n D.n D.k cx D.m wr HN.out).mono ?_
              rintro e w2 ⟨B, dst, back, left, lev0, nx0, rfl, hfi, hdis, hlt, hfw, hbel, hge⟩
              have HFI : Hid (FI D.V D.A D.A dst back left) := hfi
              have HDS : Hid B.Dis := hdis
              have HLT : Hid (B.Lt w2.heap.size) := hlt
              have HFW : Hid (FW B (netOf D.V D.A dst back left) lev0 left nx0 (.slice none 0 0) w2) := hfw
              have HB2 : Hid (Below wr.heap.size wr w2) := hbel
              have HGE : Hid (wr.heap.size ≤ B.F ∧ wr.heap.size ≤ B.bf ∧ wr.heap.size ≤ B.bt ∧ wr.heap.size ≤ B.bl ∧ wr.heap.size ≤ B.bb ∧ wr.heap.size ≤ B.bv ∧ wr.heap.size ≤ B.bn) := hge
              have g2 := hfw.plain.2.2.1
              clear hfi hdis hlt hfw hbel hge
              go_wp2_with fail
              refine (clone6 B.bl (pre D.A D.V) _ left w2 (fun i hi => cell_row HFW.out.left hi) HLT.out.bl (by omega)).mono ?_
              rintro e w3 ⟨xo, co, rfl, hcp, hb3⟩
              have HO : Hid (Cp w2.heap.size w3 xo (pre D.A D.V) left) := hcp
              have HB3 : Hid (Below w2.heap.size w2 w3) := hb3
              have HF3 : Hid (FW B (netOf D.V D.A dst back left) lev0 left nx0 (.slice none 0 0) w3) := HFW.out.on HLT.out hb3.block
              have hs3 := hb3.size
              clear g2 hcp hb3
              have g2 := HF3.out.plain.1
              go_wp2_with fail
              refine (clone7 B.bf (D.V + 1) _ (fun i => (pre D.A i : Int)) w3 (fun i hi => cell_rowN HF3.out.first hi) (Nat.lt_of_lt_of_le HLT.out.bf hs3) (by omega)).mono ?_
              rintro e w4 ⟨xf, cf, rfl, hcp, hb4⟩
              have HF : Hid (Cp w2.heap.size w4 xf (D.V + 1) (fun i => (pre D.A i : Int))) := hcp.low hs3
              have HO4 : Hid (Cp w2.heap.size w4 xo (pre D.A D.V) left) := HO.out.below hb4
              have HB4 : Hid (Below w2.heap.size w2 w4) := below_then HB3.out hb4 hs3
              have HF4 : Hid (FW B (netOf D.V D.A dst back left) lev0 left nx0 (.slice none 0 0) w4) := HF3.out.on (HLT.out.mono hs3) hb4.block
              have hs4 := Nat.le_trans hs3 hb4.size
              clear g2 hcp hb4 HO HB3 HF3
              have g2 := HF4.out.plain.2.1
              go_wp2_with fail
              refine (clone7 B.bt (pre D.A D.V) _ (fun i => (dst i : Int)) w4 (fun i hi => cell_rowN HF4.out.dest hi) (Nat.lt_of_lt_of_le HLT.out.bt hs4) (by omega)).mono ?_
              rintro e w5 ⟨xt, ct, rfl, hcp, hb5⟩
              have HT : Hid (Cp w2.heap.size w5 xt (pre D.A D.V) (fun i => (dst i : Int))) := hcp.low hs4
              have HO5 : Hid (Cp w2.heap.size w5 xo (pre D.A D.V) left) := HO4.out.below hb5
              have HFF5 : Hid (Cp w2.heap.size w5 xf (D.V + 1) (fun i => (pre D.A i : Int))) := HF.out.below hb5
              have HB5 : Hid (Below w2.heap.size w2 w5) := below_then HB4.out hb5 hs4
              have HF5 : Hid (FW B (netOf D.V D.A dst back left) lev0 left nx0 (.slice none 0 0) w5) := HF4.out.on (HLT.out.mono hs4) hb5.block
              have hs5 := Nat.le_trans hs4 hb5.size
              clear g2 hcp hb5 HO4 HF HB4 HF4 hs3 hs4
              have g2 := HF5.out.plain.2.2.2.1
              go_wp2_with fail
              refine (clone7 B.bb (pre D.A D.V) _ (fun i => (back i : Int)) w5 (fun i hi => cell_rowN HF5.out.back hi) (Nat.lt_of_lt_of_le HLT.out.bb hs5) (by omega)).mono ?_
              rintro e w6 ⟨xb, cb, rfl, hcp, hb6⟩
              have HK6 : Hid (Cp w2.heap.size w6 xb (pre D.A D.V) (fun i => (back i : Int))) := hcp.low hs5
              have HO6 : Hid (Cp w2.heap.size w6 xo (pre D.A D.V) left) := HO5.out.below hb6
              have HFF6 : Hid (Cp w2.heap.size w6 xf (D.V + 1) (fun i => (pre D.A i : Int))) := HFF5.out.below hb6
              have HT6 : Hid (Cp w2.heap.size w6 xt (pre D.A D.V) (fun i => (dst i : Int))) := HT.out.below hb6
              have HB6 : Hid (Below w2.heap.size w2 w6) := below_then HB5.out hb6 hs5
              have HF6 : Hid (FW B (netOf D.V D.A dst back left) lev0 left nx0 (.slice none 0 0) w6) := HF5.out.on (HLT.out.mono hs5) hb6.block
              have hs6 := Nat.le_trans hs5 hb6.size
              clear g2 hcp hb6 HO5 HFF5 HT HB5 HF5 hs5
              go_upto_region 36 with fail
              go_cut [23] from 148 to 149 (fun t wm => ∃ (s : Int) (lev l : Nat → Int) (nx : Nat → Nat) (q : Value), t = .int .i64 s ∧ FW B (netOf D.V D.A dst back left) lev l nx q wm ∧ Val (netOf D.V D.A dst back left) l ∧ Total (netOf D.V D.A dst back left) l s ∧ Found (netOf D.V D.A dst back left) l lev false ∧ KeepM B w6.heap.size w6 wm)
              case first =>
                go_wp2_with fail
                refine (maximise_any (top := w6.heap.size) (HFI.out.ok hV2) HDS.out (HLT.out.mono hs6) (by show D.V ≤ 900; omega) (by show pre D.A D.V ≤ 1000000; omega) (total_le hD HFI.out) lev0 nx0 w6 HF6.out (Nat.le_refl _)).mono ?_
                rintro e wm ⟨s, lev, l, nx, q, rfl, hfw, hval, htot, hfound, hkeep⟩
                have HRR : Hid (FW B (netOf D.V D.A dst back left) lev l nx q wm ∧ Val (netOf D.V D.A dst back left) l ∧ Total (netOf D.V D.A dst back left) l s ∧ Found (netOf D.V D.A dst back left) l lev false ∧ KeepM B w6.heap.size w6 wm) := ⟨hfw, hval, htot, hfound, hkeep⟩
                clear hfw hval htot hfound hkeep
                go_wp2_with fail
                go_meet
                exact ⟨s, lev, l, nx, q, rfl, HRR.out⟩
              case rest =>
              obtain ⟨s, lev, l, nx, q, rfl, hfw, hval, htot, hfound, hkeep⟩ := hcut
              obtain ⟨wm, rfl⟩ : ∃ x : World, x = wc := ⟨_, rfl⟩
              have hsm := hkeep.size
              have HO : Hid (Rg wm.heap.size wm xo (pre D.A D.V) left) := (HO6.out.kept HLT.out (Nat.le_refl _) hkeep.block).mono hsm
              have HF : Hid (Rg wm.heap.size wm xf (D.V + 1) (fun i => (pre D.A i : Int))) := (HFF6.out.kept HLT.out (Nat.le_refl _) hkeep.block).mono hsm
              have HT : Hid (Rg wm.heap.size wm xt (pre D.A D.V) (fun i => (dst i : Int))) := (HT6.out.kept HLT.out (Nat.le_refl _) hkeep.block).mono hsm
              have HK : Hid (Rg wm.heap.size wm xb (pre D.A D.V) (fun i => (back i : Int))) := (HK6.out.kept HLT.out (Nat.le_refl _) hkeep.block).mono hsm
              have hbm : Below wr.heap.size wr wm := below_max (below_then HB2.out HB6.out HB2.out.size) hkeep (Nat.le_trans HB2.out.size hs6) HGE.out
              have HNM : Hid (NIn D w.heap.size (w.heap.size + 2) (w.heap.size + 1) cx D.m wm) := HN.out.below hbm
              have HBM : Hid (Below w.heap.size w wm ∧ w.heap.size ≤ wm.heap.size) := ⟨below_then HBE.out.1 hbm HBE.out.1.size, Nat.le_trans HBE.out.1.size hbm.size⟩
              have HLM : Hid (B.Lt wm.heap.size) := HLT.out.mono (Nat.le_trans hs6 hsm)
              have HFM : Hid (FW B (netOf D.V D.A dst back left) lev l nx q wm) := hfw
              have HVL : Hid (Val (netOf D.V D.A dst back left) l) := hval
              have HTL : Hid (Total (netOf D.V D.A dst back left) l s) := htot
              have HFD : Hid (Found (netOf D.V D.A dst back left) l lev false) := hfound
              clear hfw hval htot hfound hkeep hsm hs6 HO6 HFF6 HT6 HK6 HB6 HF6 HLT HFW HB2 HGE HN HBE hbm
              go_step
              exact restC_at hD HFI.out HLM.out HFM.out HVL.out HTL.out HFD.out HO.out HF.out HT.out HK.out HBM.out HNM.out rfl
end Go.Proofs.Ybulkdxng.D
