import Derived.Test.YbulkdxngJ
import Derived.Deep.CutBlock
namespace Go.Proofs.Ybulkdxng.D
open Go.RowKit
set_option linter.unusedVariables false
theorem Yba.info4 : (Yba.prog.info? 4).map (fun i => (i.zero, i.size, i.bytes)) = some (some (.bool false), 1, 1) := by kernel_rfl

set_option maxRecDepth 100000 in
set_option maxHeartbeats 6400000 in
theorem restC {w wm : World} {D : Dt} {cx : Nat → Option Addr} {B : Blk} {dst back : Nat → Nat} {left lev l : Nat → Int} {nx : Nat → Nat} {q : Value} {s : Int} {xo xf xt xb : Option Addr} {co cf ct cb : Nat}
    (v : Nat → Value)
    (hD : D.OK) (hfi : FI D.V D.A D.A dst back left) (hlm : B.Lt wm.heap.size) (hfm : FW B (netOf D.V D.A dst back left) lev l nx q wm) (hvl : Val (netOf D.V D.A dst back left) l) (htl : Total (netOf D.V D.A dst back left) l s) (hfd : Found (netOf D.V D.A dst back left) l lev false)
    (hro : Rg wm.heap.size wm xo (pre D.A D.V) left) (hrf : Rg wm.heap.size wm xf (D.V + 1) (fun i => (pre D.A i : Int))) (hrt : Rg wm.heap.size wm xt (pre D.A D.V) (fun i => (dst i : Int))) (hrk : Rg wm.heap.size wm xb (pre D.A D.V) (fun i => (back i : Int))) (hbm : Below w.heap.size w wm ∧ w.heap.size ≤ wm.heap.size)
    (hnm : NIn D w.heap.size (w.heap.size + 2) (w.heap.size + 1) cx D.m wm) :
    Code.wp Yba.prog (cdrop 17 (codeOf Yba.f3)) (bodyPost Yba.prog Yba.f3 fun e w' => e = .returned (.bool true) ∧ Below w.heap.size w w')
      ⟨#[v 0, v 1, v 2, v 3, v 4, v 5, v 6, .int .i64 (D.n : Int), .int .i64 (D.k : Int), .slice (some ⟨w.heap.size, 0, none⟩) D.n D.n, v 10, .slice (some ⟨w.heap.size + 1, 0, none⟩) D.k D.k, v 12, .slice (some ⟨w.heap.size + 2, 0, none⟩) D.n D.n, v 14, v 15, v 16, v 17, .pointer (some ⟨B.F, 0, none⟩), .slice xo (pre D.A D.V) co, .slice xf (D.V + 1) cf, .slice xt (pre D.A D.V) ct, .slice xb (pre D.A D.V) cb, .int .i64 s, v 24, v 25, v 26, v 27, v 28, v 29, v 30, v 31, v 32, v 33, v 34, v 35, v 36, v 37, v 38, v 39, v 40, v 41, v 42, v 43, v 44, v 45, v 46, v 47, v 48, v 49, v 50, v 51, v 52, v 53, v 54, v 55, v 56, v 57, v 58, v 59, v 60, v 61, v 62, v 63, v 64, v 65, v 66, v 67, v 68, v 69, v 70, v 71, v 72, v 73, v 74, v 75, v 76, v 77, v 78, v 79, v 80, v 81, v 82, v 83, v 84, v 85, v 86, v 87, v 88, v 89, v 90, v 91, v 92, v 93, v 94, v 95, v 96, v 97, v 98, v 99, v 100, v 101, v 102, v 103, v 104, v 105, v 106, v 107, v 108, v 109, v 110, v 111, v 112, v 113, v 114, v 115, v 116, v 117, v 118, v 119, v 120, v 121, v 122, v 123, v 124, v 125, v 126, v 127, v 128, v 129, v 130, v 131, v 132, v 133, v 134, v 135, v 136, v 137, v 138, v 139, v 140, v 141, v 142, v 143, v 144, v 145, v 146, v 147, v 148, v 149, v 150, v 151, v 152, v 153, v 154, v 155, v 156, v 157, v 158, v 159, v 160, v 161, v 162, v 163, v 164, v 165, v 166, v 167, v 168, v 169, v 170, v 171, v 172, v 173, v 174, v 175, v 176, v 177, v 178, v 179, v 180, v 181, v 182, v 183, v 184, v 185, v 186, v 187, v 188, v 189, v 190, v 191, v 192, v 193, v 194, v 195, v 196, v 197, v 198, v 199, v 200, v 201, v 202, v 203, v 204, v 205, v 206, v 207, v 208, v 209, v 210, v 211, v 212, v 213, v 214, v 215, v 216, v 217, v 218, v 219, v 220, v 221, v 222, v 223, v 224, v 225, v 226, v 227, v 228, v 229, v 230, v 231, v 232, v 233, v 234, v 235, v 236, v 237, v 238, v 239, v 240, v 241, v 242, v 243, v 244, v 245, v 246, v 247, v 248, v 249, v 250, v 251, v 252, v 253, v 254, v 255, v 256, v 257, v 258, v 259, v 260, v 261, v 262, v 263, v 264, v 265, v 266, v 267, v 268, v 269, v 270, v 271, v 272, v 273, v 274, v 275, v 276, v 277, v 278, v 279, v 280, v 281, v 282, v 283, v 284, v 285, v 286, v 287, v 288, v 289, v 290, v 291, v 292, v 293, v 294, v 295, v 296, v 297, v 298, v 299, v 300, v 301, v 302, v 303, v 304, v 305, v 306, v 307, v 308, v 309, v 310, v 311, v 312, v 313, v 314, v 315, v 316, v 317, v 318, v 319, v 320, v 321, v 322, v 323, v 324, v 325, v 326, v 327, v 328, v 329, v 330, v 331, v 332, v 333, v 334, v 335, v 336, v 337, v 338, v 339, v 340, v 341, v 342, v 343, v 344, v 345, v 346, v 347, v 348, v 349, v 350, v 351, v 352, v 353, v 354, v 355, v 356, v 357, v 358, v 359, v 360, v 361, v 362, v 363, v 364, v 365, v 366, v 367, v 368, v 369, v 370, v 371, v 372, v 373, v 374, v 375, v 376, v 377, v 378, v 379, v 380, v 381, v 382, v 383, v 384, v 385, v 386, v 387, v 388, v 389, v 390, v 391, v 392, v 393, v 394, v 395, v 396, v 397, v 398, v 399, v 400, v 401, v 402, v 403, v 404, v 405, v 406, v 407, v 408, v 409, v 410, v 411, v 412, v 413, v 414, v 415, v 416, v 417, v 418, v 419, v 420, v 421, v 422, v 423], []⟩ wm := by
  have HFI : Hid (FI D.V D.A D.A dst back left) := hfi
  have HLM : Hid (B.Lt wm.heap.size) := hlm
  have HFM : Hid (FW B (netOf D.V D.A dst back left) lev l nx q wm) := hfm
  have HVL : Hid (Val (netOf D.V D.A dst back left) l) := hvl
  have HTL : Hid (Total (netOf D.V D.A dst back left) l s) := htl
  have HFD : Hid (Found (netOf D.V D.A dst back left) l lev false) := hfd
  have HO : Hid (Rg wm.heap.size wm xo (pre D.A D.V) left) := hro
  have HF : Hid (Rg wm.heap.size wm xf (D.V + 1) (fun i => (pre D.A i : Int))) := hrf
  have HT : Hid (Rg wm.heap.size wm xt (pre D.A D.V) (fun i => (dst i : Int))) := hrt
  have HK : Hid (Rg wm.heap.size wm xb (pre D.A D.V) (fun i => (back i : Int))) := hrk
  have HBM : Hid (Below w.heap.size w wm ∧ w.heap.size ≤ wm.heap.size) := hbm
  clear hfi hlm hfm hvl htl hfd hro hrf hrt hrk hbm
  have hn := hD.n
  have hk := hD.k
  have hEl := D.E_le hD
  have hV3 : D.V ≤ 78 := by unfold Dt.V; omega
  have hV2 : 2 ≤ D.V := by unfold Dt.V; omega
  have HNM : Hid (NIn D w.heap.size (w.heap.size + 2) (w.heap.size + 1) cx D.m wm) := hnm
  clear hnm
  conv =>
    arg 2
    simp only [codeOf, Yba.f3, cdrop]
  have HSL : Hid (s ≤ 1000000000000000) := total_le hD HFI.out l s HVL.out HTL.out
  have HTG : Hid (∃ mask, mask < 2 ^ D.n ∧ cutM D mask = s) := tight hD HFI.out HVL.out HTL.out HFD.out
  have HWK : Hid (∀ mask, s ≤ cutM D mask) := weak hD HFI.out HVL.out HTL.out
  obtain ⟨P2, hP2⟩ : ∃ x, 2 ^ D.n = x := ⟨_, rfl⟩
  have hshl1 := wrap_pow hn hP2
  have hshl2 := wrap64_pow hn hP2
  have hP4 : P2 ≤ 4096 := by rw [← hP2]; exact pow12 hn
  have HP2 : Hid (2 ^ D.n = P2) := hP2
  clear hP2
  have hmk5 : ∀ w : World, (Instr.makeSlice 34 (.int .i64 (D.k : Int)) (.int .i64 (D.k : Int))).run Yba.prog w = .ok (.slice (some ⟨w.heap.size, 0, none⟩) D.k D.k) (w.alloc (.cells (rowB D.k fun _ => false) 4)) := by
    intro w
    have h := run_make_n (P := Yba.prog) 34 4 _ _ _ Yba.underlying34 Yba.info4 D.k (by omega) (by omega) w
    rwa [made_rowV _ rfl] at h
  go_upto_block 8 with fail
  clear hmk5
  go_cut [24] from 152 to 225 (fun t wc => t = .int .i64 s ∧ Below wm.heap.size wm wc)
  case first =>
    go_wp2_with fail
    go_loopw [26, 24] (fun i bv wr => ∃ (mask : Nat) (best : Int) (g : Nat → Bool), mask ≤ P2 ∧ i = .int .i64 mask ∧ bv = .int .i64 best ∧ BestI D mask best ∧ PB wm D.k g wr) (fun i _ _ => P2 - (intOf i).toNat)
    case atStart => exact ⟨0, _, _, Nat.zero_le _, rfl, rfl, BestI.start D, PB.start wm D.k⟩
    case round =>
      obtain ⟨mask, best, g, hmask, rfl, rfl, hbest, hpb⟩ := hrel
      have HBS : Hid (BestI D mask best) := hbest
      have HPB : Hid (PB wm D.k g wr) := hpb
      clear hbest hpb
      by_cases hml : mask < P2
      · have hml' : (mask : Int) < (P2 : Int) := by omega
        go_wp2_with fail
        go_loopw [27] (fun i wr => ∃ (x : Nat), x ≤ D.k ∧ i = .int .i64 x ∧ PB wm D.k (fun y => if y < x then false else g y) wr) (fun i _ => D.k - (intOf i).toNat)
        case atStart => exact ⟨0, Nat.zero_le _, rfl, HPB.out.congr (fun y _ => by simp)⟩
        case round =>
          clear HPB
          obtain ⟨x, hx, rfl, hpb⟩ := hrel
          have HPB : Hid (PB wm D.k (fun y => if y < x then false else g y) wr) := hpb
          clear hpb
          by_cases hxk : x < D.k
          · have hxk' : (x : Int) < (D.k : Int) := by omega
            have c1 := cell_rowV HPB.out.row hxk
            have z1 := frozen_row HPB.out.row
            go_wp2_with fail
            go_roundw
            case rel => exact ⟨x + 1, by omega, by go_num, (HPB.out.set hxk false).congr (fun y _ => clear_step g x y)⟩
            case measure => simp [intOf]; omega
          · have hx2 : x = D.k := by omega
            subst hx2
            go_wp2_with fail
            go_loopw [29, 28] (fun i cv wr => ∃ (j : Nat), j ≤ D.n ∧ i = .int .i64 j ∧ cv = .int .i64 (cutW D mask j) ∧ PB wm D.k (fun y => inB D mask y j) wr) (fun i _ _ => D.n - (intOf i).toNat)
            case atStart => exact ⟨0, Nat.zero_le _, rfl, rfl, HPB.out.congr (fun y hy => by rw [if_pos hy]; rfl)⟩
            case round =>
              clear HPB
              obtain ⟨j, hj, rfl, rfl, hpb⟩ := hrel
              have HPB : Hid (PB wm D.k (fun y => inB D mask y j) wr) := hpb
              clear hpb
              have hin := HNM.out.below HPB.out.below
              have hcw := cutW_bounds D hD mask hj
              by_cases hjn : j < D.n
              · have hjn' : (j : Int) < (D.n : Int) := by omega
                have hwj := hD.w j hjn
                obtain ⟨Mj, hMj⟩ : ∃ x, mask / 2 ^ j = x := ⟨_, rfl⟩
                have hMl : Mj ≤ 4096 := by rw [← hMj]; exact Nat.le_trans (Nat.div_le_self _ _) (by omega)
                have hshr1 := div_pow hMj
                have hshr2 := div_pow_min (by omega) hMj
                obtain ⟨Bj, hBj⟩ : ∃ x, Mj % 2 = x := ⟨_, rfl⟩
                have hand := and_bit hMl hBj
                have hbit : bit mask j = decide (Bj = 1) := by rw [← hBj, ← hMj]; rfl
                have HBT : Hid (bit mask j = decide (Bj = 1)) := hbit
                clear hMj hBj hbit
                by_cases hb1 : Bj = 1
                · have hbe : ((Bj : Int) == 1) = true := by simp [hb1]
                  have HB1 : Hid (bit mask j = true) := by rw [HBT.out, hb1]; rfl
                  have c1 := hin.k j hjn
                  clear hb1 HBT hin
                  go_wp2_with fail
                  go_loopw [181] (fun i wr => ∃ (t : Nat), t ≤ D.m j ∧ i = .int .i64 t ∧ PB wm D.k (fun y => inB D mask y j || hasK D j y t) wr) (fun i _ => D.m j - (intOf i).toNat)
                  case atStart => exact ⟨0, Nat.zero_le _, rfl, HPB.out.congr (fun y _ => by simp [hasK])⟩
                  case round =>
                    clear HPB c1
                    obtain ⟨t, ht, rfl, hpb⟩ := hrel
                    have HPB : Hid (PB wm D.k (fun y => inB D mask y j || hasK D j y t) wr) := hpb
                    clear hpb
                    have hin := HNM.out.below HPB.out.below
                    have hm32 := hD.m j hjn
                    by_cases htm : t < D.m j
                    · have htm' : (t : Int) < (D.m j : Int) := by omega
                      rcases hin.ks j hjn with h0 | ⟨b, hX, hbl, hbc⟩
                      · omega
                      have c1 := hbc t htm
                      have hkd := hD.kd j t hjn htm
                      have hkd' : (D.kd j t : Int) < (D.k : Int) := by omega
                      have c2 := cell_rowV HPB.out.row hkd
                      have z2 := frozen_row HPB.out.row
                      rw [hX]
                      clear hbc hin
                      go_wp2_with fail
                      go_roundw
                      case rel => exact ⟨t + 1, by omega, by go_num, (HPB.out.set hkd true).congr (fun y _ => has_step D mask j t y)⟩
                      case measure => simp [intOf]; omega
                    · have ht2 : t = D.m j := by omega
                      subst ht2
                      clear hin
                      go_wp2_with fail
                      go_roundw
                      case rel => exact ⟨j + 1, by omega, by go_num, by rw [cutW_one D HB1.out], HPB.out.congr (fun y _ => inB_one D HB1.out y)⟩
                      case measure => simp [intOf]; omega
                · have hbe : ((Bj : Int) == 1) = false := by simp; omega
                  have HB1 : Hid (bit mask j = false) := by rw [HBT.out]; exact decide_eq_false hb1
                  have c1 := hin.ws j hjn
                  clear hb1 HBT hin
                  by_cases hpos : 0 < D.w j
                  · have hdp : decide (0 < D.w j) = true := decide_eq_true hpos
                    go_wp2_with fail
                    go_roundw
                    case rel => exact ⟨j + 1, by omega, by go_num, by rw [cutW_not D HB1.out]; exact congrArg (Value.int .i64) (by omega), HPB.out.congr (fun y _ => inB_not D HB1.out y)⟩
                    case measure => simp [intOf]; omega
                  · have hdp : decide (0 < D.w j) = false := decide_eq_false hpos
                    go_wp2_with fail
                    go_roundw
                    case rel => exact ⟨j + 1, by omega, by go_num, by rw [cutW_not D HB1.out]; exact congrArg (Value.int .i64) (by omega), HPB.out.congr (fun y _ => inB_not D HB1.out y)⟩
                    case measure => simp [intOf]; omega
              · have hjn3 : j = D.n := by omega
                subst hjn3
                clear hin
                go_wp2_with fail
                go_loopw [32, 28] (fun i cv wr => ∃ (x : Nat), x ≤ D.k ∧ i = .int .i64 x ∧ cv = .int .i64 (cutW D mask D.n + cutC D mask x) ∧ PB wm D.k (fun y => inB D mask y D.n) wr) (fun i _ _ => D.k - (intOf i).toNat)
                case atStart => exact ⟨0, Nat.zero_le _, rfl, congrArg (Value.int .i64) (by show cutW D mask D.n = cutW D mask D.n + 0; omega), HPB.out⟩
                case round =>
                  clear HPB
                  obtain ⟨x, hx, rfl, rfl, hpb⟩ := hrel
                  have HPB : Hid (PB wm D.k (fun y => inB D mask y D.n) wr) := hpb
                  clear hpb
                  have hin := HNM.out.below HPB.out.below
                  have hcc := cutC_bounds D hD mask hx
                  by_cases hxk : x < D.k
                  · have hxk' : (x : Int) < (D.k : Int) := by omega
                    have c1 : wr.cell? ⟨wm.heap.size, x, none⟩ = some (.bool (inB D mask x D.n)) := cell_rowV HPB.out.row hxk
                    have c2 := hin.c x hxk
                    have hcx := hD.c x hxk
                    clear hin
                    cases hI : inB D mask x D.n with
                    | false =>
                      rw [hI] at c1
                      have HI : Hid (inB D mask x D.n = false) := hI
                      clear hI
                      go_wp2_with fail
                      go_roundw
                      case rel => exact ⟨x + 1, by omega, by go_num, by rw [cutC_not D HI.out], HPB.out⟩
                      case measure => simp [intOf]; omega
                    | true =>
                      rw [hI] at c1
                      have HI : Hid (inB D mask x D.n = true) := hI
                      clear hI
                      by_cases hpos : 0 < D.c x
                      · have hdp : decide (0 < D.c x) = true := decide_eq_true hpos
                        go_wp2_with fail
                        go_roundw
                        case rel => exact ⟨x + 1, by omega, by go_num, by rw [cutC_one D HI.out]; exact congrArg (Value.int .i64) (by omega), HPB.out⟩
                        case measure => simp [intOf]; omega
                      · have hdp : decide (0 < D.c x) = false := decide_eq_false hpos
                        go_wp2_with fail
                        go_roundw
                        case rel => exact ⟨x + 1, by omega, by go_num, by rw [cutC_one D HI.out]; exact congrArg (Value.int .i64) (by omega), HPB.out⟩
                        case measure => simp [intOf]; omega
                  · have hx2 : x = D.k := by omega
                    subst hx2
                    clear hin
                    by_cases hcb : cutW D mask D.n + cutC D mask D.k < best
                    · go_wp2_with fail
                      go_roundw
                      case rel => exact ⟨mask + 1, _, _, by omega, by go_num, rfl, HBS.out.take hcb, HPB.out⟩
                      case measure => simp [intOf]; omega
                    · go_wp2_with fail
                      go_roundw
                      case rel => exact ⟨mask + 1, _, _, by omega, by go_num, rfl, HBS.out.keep (by show best ≤ cutW D mask D.n + cutC D mask D.k; omega), HPB.out⟩
                      case measure => simp [intOf]; omega
      · have hm2 : mask = P2 := by omega
        subst hm2
        have hbs : s = best := by
          have h := HBS.out
          rw [← HP2.out] at h
          exact (h.eq HWK.out HTG.out HSL.out).symm
        subst hbs
        go_wp2_with fail
        go_meet
        exact ⟨rfl, HPB.out.below⟩
  case rest =>
  obtain ⟨rfl, hb1⟩ := hcut
  have hs0 : 0 ≤ s := by
    obtain ⟨mk, _, h⟩ := HTG.out
    have h1 := cutW_bounds D hD mk (Nat.le_refl D.n)
    have h2 := cutC_bounds D hD mk (Nat.le_refl D.k)
    unfold cutM at h
    omega
  go_step
  exact restD_at hD HFI.out HLM.out HFM.out HVL.out HTL.out HFD.out HO.out HF.out HT.out HK.out HBM.out hs0 HSL.out hb1 rfl

set_option maxRecDepth 100000 in
theorem restC_at {w wm : World} {D : Dt} {cx : Nat → Option Addr} {B : Blk} {dst back : Nat → Nat} {left lev l : Nat → Int} {nx : Nat → Nat} {q : Value} {s : Int} {xo xf xt xb : Option Addr} {co cf ct cb : Nat}
    {a : List Value}
    (hD : D.OK) (hfi : FI D.V D.A D.A dst back left) (hlm : B.Lt wm.heap.size) (hfm : FW B (netOf D.V D.A dst back left) lev l nx q wm) (hvl : Val (netOf D.V D.A dst back left) l) (htl : Total (netOf D.V D.A dst back left) l s) (hfd : Found (netOf D.V D.A dst back left) l lev false)
    (hro : Rg wm.heap.size wm xo (pre D.A D.V) left) (hrf : Rg wm.heap.size wm xf (D.V + 1) (fun i => (pre D.A i : Int))) (hrt : Rg wm.heap.size wm xt (pre D.A D.V) (fun i => (dst i : Int))) (hrk : Rg wm.heap.size wm xb (pre D.A D.V) (fun i => (back i : Int))) (hbm : Below w.heap.size w wm ∧ w.heap.size ≤ wm.heap.size)
    (hnm : NIn D w.heap.size (w.heap.size + 2) (w.heap.size + 1) cx D.m wm) (ha : a = [slot a 0, slot a 1, slot a 2, slot a 3, slot a 4, slot a 5, slot a 6, .int .i64 (D.n : Int), .int .i64 (D.k : Int), .slice (some ⟨w.heap.size, 0, none⟩) D.n D.n, slot a 10, .slice (some ⟨w.heap.size + 1, 0, none⟩) D.k D.k, slot a 12, .slice (some ⟨w.heap.size + 2, 0, none⟩) D.n D.n, slot a 14, slot a 15, slot a 16, slot a 17, .pointer (some ⟨B.F, 0, none⟩), .slice xo (pre D.A D.V) co, .slice xf (D.V + 1) cf, .slice xt (pre D.A D.V) ct, .slice xb (pre D.A D.V) cb, .int .i64 s, slot a 24, slot a 25, slot a 26, slot a 27, slot a 28, slot a 29, slot a 30, slot a 31, slot a 32, slot a 33, slot a 34, slot a 35, slot a 36, slot a 37, slot a 38, slot a 39, slot a 40, slot a 41, slot a 42, slot a 43, slot a 44, slot a 45, slot a 46, slot a 47, slot a 48, slot a 49, slot a 50, slot a 51, slot a 52, slot a 53, slot a 54, slot a 55, slot a 56, slot a 57, slot a 58, slot a 59, slot a 60, slot a 61, slot a 62, slot a 63, slot a 64, slot a 65, slot a 66, slot a 67, slot a 68, slot a 69, slot a 70, slot a 71, slot a 72, slot a 73, slot a 74, slot a 75, slot a 76, slot a 77, slot a 78, slot a 79, slot a 80, slot a 81, slot a 82, slot a 83, slot a 84, slot a 85, slot a 86, slot a 87, slot a 88, slot a 89, slot a 90, slot a 91, slot a 92, slot a 93, slot a 94, slot a 95, slot a 96, slot a 97, slot a 98, slot a 99, slot a 100, slot a 101, slot a 102, slot a 103, slot a 104, slot a 105, slot a 106, slot a 107, slot a 108, slot a 109, slot a 110, slot a 111, slot a 112, slot a 113, slot a 114, slot a 115, slot a 116, slot a 117, slot a 118, slot a 119, slot a 120, slot a 121, slot a 122, slot a 123, slot a 124, slot a 125, slot a 126, slot a 127, slot a 128, slot a 129, slot a 130, slot a 131, slot a 132, slot a 133, slot a 134, slot a 135, slot a 136, slot a 137, slot a 138, slot a 139, slot a 140, slot a 141, slot a 142, slot a 143, slot a 144, slot a 145, slot a 146, slot a 147, slot a 148, slot a 149, slot a 150, slot a 151, slot a 152, slot a 153, slot a 154, slot a 155, slot a 156, slot a 157, slot a 158, slot a 159, slot a 160, slot a 161, slot a 162, slot a 163, slot a 164, slot a 165, slot a 166, slot a 167, slot a 168, slot a 169, slot a 170, slot a 171, slot a 172, slot a 173, slot a 174, slot a 175, slot a 176, slot a 177, slot a 178, slot a 179, slot a 180, slot a 181, slot a 182, slot a 183, slot a 184, slot a 185, slot a 186, slot a 187, slot a 188, slot a 189, slot a 190, slot a 191, slot a 192, slot a 193, slot a 194, slot a 195, slot a 196, slot a 197, slot a 198, slot a 199, slot a 200, slot a 201, slot a 202, slot a 203, slot a 204, slot a 205, slot a 206, slot a 207, slot a 208, slot a 209, slot a 210, slot a 211, slot a 212, slot a 213, slot a 214, slot a 215, slot a 216, slot a 217, slot a 218, slot a 219, slot a 220, slot a 221, slot a 222, slot a 223, slot a 224, slot a 225, slot a 226, slot a 227, slot a 228, slot a 229, slot a 230, slot a 231, slot a 232, slot a 233, slot a 234, slot a 235, slot a 236, slot a 237, slot a 238, slot a 239, slot a 240, slot a 241, slot a 242, slot a 243, slot a 244, slot a 245, slot a 246, slot a 247, slot a 248, slot a 249, slot a 250, slot a 251, slot a 252, slot a 253, slot a 254, slot a 255, slot a 256, slot a 257, slot a 258, slot a 259, slot a 260, slot a 261, slot a 262, slot a 263, slot a 264, slot a 265, slot a 266, slot a 267, slot a 268, slot a 269, slot a 270, slot a 271, slot a 272, slot a 273, slot a 274, slot a 275, slot a 276, slot a 277, slot a 278, slot a 279, slot a 280, slot a 281, slot a 282, slot a 283, slot a 284, slot a 285, slot a 286, slot a 287, slot a 288, slot a 289, slot a 290, slot a 291, slot a 292, slot a 293, slot a 294, slot a 295, slot a 296, slot a 297, slot a 298, slot a 299, slot a 300, slot a 301, slot a 302, slot a 303, slot a 304, slot a 305, slot a 306, slot a 307, slot a 308, slot a 309, slot a 310, slot a 311, slot a 312, slot a 313, slot a 314, slot a 315, slot a 316, slot a 317, slot a 318, slot a 319, slot a 320, slot a 321, slot a 322, slot a 323, slot a 324, slot a 325, slot a 326, slot a 327, slot a 328, slot a 329, slot a 330, slot a 331, slot a 332, slot a 333, slot a 334, slot a 335, slot a 336, slot a 337, slot a 338, slot a 339, slot a 340, slot a 341, slot a 342, slot a 343, slot a 344, slot a 345, slot a 346, slot a 347, slot a 348, slot a 349, slot a 350, slot a 351, slot a 352, slot a 353, slot a 354, slot a 355, slot a 356, slot a 357, slot a 358, slot a 359, slot a 360, slot a 361, slot a 362, slot a 363, slot a 364, slot a 365, slot a 366, slot a 367, slot a 368, slot a 369, slot a 370, slot a 371, slot a 372, slot a 373, slot a 374, slot a 375, slot a 376, slot a 377, slot a 378, slot a 379, slot a 380, slot a 381, slot a 382, slot a 383, slot a 384, slot a 385, slot a 386, slot a 387, slot a 388, slot a 389, slot a 390, slot a 391, slot a 392, slot a 393, slot a 394, slot a 395, slot a 396, slot a 397, slot a 398, slot a 399, slot a 400, slot a 401, slot a 402, slot a 403, slot a 404, slot a 405, slot a 406, slot a 407, slot a 408, slot a 409, slot a 410, slot a 411, slot a 412, slot a 413, slot a 414, slot a 415, slot a 416, slot a 417, slot a 418, slot a 419, slot a 420, slot a 421, slot a 422, slot a 423]) :
    Code.wp Yba.prog (cdrop 17 (codeOf Yba.f3)) (bodyPost Yba.prog Yba.f3 fun e w' => e = .returned (.bool true) ∧ Below w.heap.size w w')
      ⟨a.toArray, []⟩ wm := by
  rw [ha]
  exact restC (slot a) hD hfi hlm hfm hvl htl hfd hro hrf hrt hrk hbm hnm
end Go.Proofs.Ybulkdxng.D
