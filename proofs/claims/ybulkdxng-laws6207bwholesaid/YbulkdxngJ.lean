import Derived.Test.YbulkdxngI
namespace Go.Proofs.Ybulkdxng.D
open Go.RowKit
set_option linter.unusedVariables false
def cdrop : Nat → Code → Code
  | 0, c => c
  | n + 1, .seq _ b => cdrop n b
  | _, c => c
def codeOf (f : Func) : Code := match f.body with | some c => c | none => .skip
def slot (a : List Value) (i : Nat) : Value := a.getD i undef

set_option maxRecDepth 100000 in
set_option maxHeartbeats 6400000 in
theorem restD {w wm wr : World} {D : Dt} {B : Blk} {dst back : Nat → Nat} {left lev l : Nat → Int} {nx : Nat → Nat} {q : Value} {s : Int} {xo xf xt xb : Option Addr} {co cf ct cb : Nat}
    (v : Nat → Value)
    (hD : D.OK) (hfi : FI D.V D.A D.A dst back left) (hlm : B.Lt wm.heap.size) (hfm : FW B (netOf D.V D.A dst back left) lev l nx q wm) (hvl : Val (netOf D.V D.A dst back left) l) (htl : Total (netOf D.V D.A dst back left) l s) (hfd : Found (netOf D.V D.A dst back left) l lev false)
    (hro : Rg wm.heap.size wm xo (pre D.A D.V) left) (hrf : Rg wm.heap.size wm xf (D.V + 1) (fun i => (pre D.A i : Int))) (hrt : Rg wm.heap.size wm xt (pre D.A D.V) (fun i => (dst i : Int))) (hrk : Rg wm.heap.size wm xb (pre D.A D.V) (fun i => (back i : Int))) (hbm : Below w.heap.size w wm ∧ w.heap.size ≤ wm.heap.size)
    (hs0 : 0 ≤ s) (hs1 : s ≤ 1000000000000000) (hb1 : Below wm.heap.size wm wr) :
    Code.wp Yba.prog (cdrop 20 (codeOf Yba.f3)) (bodyPost Yba.prog Yba.f3 fun e w' => e = .returned (.bool true) ∧ Below w.heap.size w w')
      ⟨#[v 0, v 1, v 2, v 3, v 4, v 5, v 6, v 7, v 8, v 9, v 10, v 11, v 12, v 13, v 14, v 15, v 16, v 17, .pointer (some ⟨B.F, 0, none⟩), .slice xo (pre D.A D.V) co, .slice xf (D.V + 1) cf, .slice xt (pre D.A D.V) ct, .slice xb (pre D.A D.V) cb, .int .i64 s, .int .i64 s, v 25, v 26, v 27, v 28, v 29, v 30, v 31, v 32, v 33, v 34, v 35, v 36, v 37, v 38, v 39, v 40, v 41, v 42, v 43, v 44, v 45, v 46, v 47, v 48, v 49, v 50, v 51, v 52, v 53, v 54, v 55, v 56, v 57, v 58, v 59, v 60, v 61, v 62, v 63, v 64, v 65, v 66, v 67, v 68, v 69, v 70, v 71, v 72, v 73, v 74, v 75, v 76, v 77, v 78, v 79, v 80, v 81, v 82, v 83, v 84, v 85, v 86, v 87, v 88, v 89, v 90, v 91, v 92, v 93, v 94, v 95, v 96, v 97, v 98, v 99, v 100, v 101, v 102, v 103, v 104, v 105, v 106, v 107, v 108, v 109, v 110, v 111, v 112, v 113, v 114, v 115, v 116, v 117, v 118, v 119, v 120, v 121, v 122, v 123, v 124, v 125, v 126, v 127, v 128, v 129, v 130, v 131, v 132, v 133, v 134, v 135, v 136, v 137, v 138, v 139, v 140, v 141, v 142, v 143, v 144, v 145, v 146, v 147, v 148, v 149, v 150, v 151, v 152, v 153, v 154, v 155, v 156, v 157, v 158, v 159, v 160, v 161, v 162, v 163, v 164, v 165, v 166, v 167, v 168, v 169, v 170, v 171, v 172, v 173, v 174, v 175, v 176, v 177, v 178, v 179, v 180, v 181, v 182, v 183, v 184, v 185, v 186, v 187, v 188, v 189, v 190, v 191, v 192, v 193, v 194, v 195, v 196, v 197, v 198, v 199, v 200, v 201, v 202, v 203, v 204, v 205, v 206, v 207, v 208, v 209, v 210, v 211, v 212, v 213, v 214, v 215, v 216, v 217, v 218, v 219, v 220, v 221, v 222, v 223, v 224, v 225, v 226, v 227, v 228, v 229, v 230, v 231, v 232, v 233, v 234, v 235, v 236, v 237, v 238, v 239, v 240, v 241, v 242, v 243, v 244, v 245, v 246, v 247, v 248, v 249, v 250, v 251, v 252, v 253, v 254, v 255, v 256, v 257, v 258, v 259, v 260, v 261, v 262, v 263, v 264, v 265, v 266, v 267, v 268, v 269, v 270, v 271, v 272, v 273, v 274, v 275, v 276, v 277, v 278, v 279, v 280, v 281, v 282, v 283, v 284, v 285, v 286, v 287, v 288, v 289, v 290, v 291, v 292, v 293, v 294, v 295, v 296, v 297, v 298, v 299, v 300, v 301, v 302, v 303, v 304, v 305, v 306, v 307, v 308, v 309, v 310, v 311, v 312, v 313, v 314, v 315, v 316, v 317, v 318, v 319, v 320, v 321, v 322, v 323, v 324, v 325, v 326, v 327, v 328, v 329, v 330, v 331, v 332, v 333, v 334, v 335, v 336, v 337, v 338, v 339, v 340, v 341, v 342, v 343, v 344, v 345, v 346, v 347, v 348, v 349, v 350, v 351, v 352, v 353, v 354, v 355, v 356, v 357, v 358, v 359, v 360, v 361, v 362, v 363, v 364, v 365, v 366, v 367, v 368, v 369, v 370, v 371, v 372, v 373, v 374, v 375, v 376, v 377, v 378, v 379, v 380, v 381, v 382, v 383, v 384, v 385, v 386, v 387, v 388, v 389, v 390, v 391, v 392, v 393, v 394, v 395, v 396, v 397, v 398, v 399, v 400, v 401, v 402, v 403, v 404, v 405, v 406, v 407, v 408, v 409, v 410, v 411, v 412, v 413, v 414, v 415, v 416, v 417, v 418, v 419, v 420, v 421, v 422, v 423], []⟩ wr := by
  have HFI : Hid (FI D.V D.A D.A dst back left) := hfi
  have HLM : Hid (B.Lt wm.heap.size) := hlm
  have HFM : Hid (FW B (netOf D.V D.A dst back left) lev l nx q wm) := hfm
  have HVL : Hid (Val (netOf D.V D.A dst back left) l) := hvl
  have HTL : Hid (Total (netOf D.V D.A dst back left) l s) := htl
  have HFD : Hid (Found (netOf D.V D.A dst back left) l lev false) := hfd
  have HO : Hid (Rg wm.heap.size wm xo (pre D.A D.V) left) := hro
  have HF : Hid (Rg wm.heap.size wm xf (D.V + 1) (fun i => (pre D.A i : Int))) := hrf
  have HT : Hid (Rg wm.heap.size wm xt (pre D.A D.V) (fun i => (dst i : Int))) := hrt
  have HK : Hid (Rg wm.heap.size wm xb (pre D.A D.V) (fun i => (back i : Int))) := hrk
  have HBM : Hid (Below w.heap.size w wm ∧ w.heap.size ≤ wm.heap.size) := hbm
  clear hfi hlm hfm hvl htl hfd hro hrf hrt hrk hbm
  have hn := hD.n
  have hk := hD.k
  have hEl := D.E_le hD
  have hV3 : D.V ≤ 78 := by unfold Dt.V; omega
  have hV2 : 2 ≤ D.V := by unfold Dt.V; omega
  have HB1 : Hid (Below wm.heap.size wm wr) := hb1
  clear hb1
  conv =>
    arg 2
    simp only [codeOf, Yba.f3, cdrop]
  have hf1 := HFM.out.on HLM.out HB1.out.block
  have g0 := hf1.plain.1
  have HE1 : Hid (Rd wr xf (D.V + 1) (fun i => (pre D.A i : Int)) ∧ Rd wr (some ⟨B.bf, 0, none⟩) (D.V + 1) (fun i => (pre D.A i : Int))) := ⟨(HF.out.keep HB1.out.block).rd, .inr ⟨B.bf, rfl, fun i hi => cell_rowN hf1.first hi⟩⟩
  clear hf1
  go_wp2_with fail
  refine (equal9 xf _ (D.V + 1) _ _ (fun i => (pre D.A i : Int)) wr HE1.out.1 HE1.out.2 (by omega)).mono ?_
  rintro e we1 ⟨rfl, hbe⟩
  have HB2 : Hid (Below wm.heap.size wm we1) := below_then HB1.out hbe HB1.out.size
  clear g0 HE1 hbe HB1
  have hf1 := HFM.out.on HLM.out HB2.out.block
  have g0 := hf1.plain.2.1
  have HE1 : Hid (Rd we1 xt (pre D.A D.V) (fun i => (dst i : Int)) ∧ Rd we1 (some ⟨B.bt, 0, none⟩) (pre D.A D.V) (fun i => (dst i : Int))) := ⟨(HT.out.keep HB2.out.block).rd, .inr ⟨B.bt, rfl, fun i hi => cell_rowN hf1.dest hi⟩⟩
  clear hf1
  go_wp2_with fail
  refine (equal9 xt _ (pre D.A D.V) _ _ (fun i => (dst i : Int)) we1 HE1.out.1 HE1.out.2 (by omega)).mono ?_
  rintro e we2 ⟨rfl, hbe⟩
  have HB3 : Hid (Below wm.heap.size wm we2) := below_then HB2.out hbe HB2.out.size
  clear g0 HE1 hbe HB2
  have hf1 := HFM.out.on HLM.out HB3.out.block
  have g0 := hf1.plain.2.2.2.1
  have HE1 : Hid (Rd we2 xb (pre D.A D.V) (fun i => (back i : Int)) ∧ Rd we2 (some ⟨B.bb, 0, none⟩) (pre D.A D.V) (fun i => (back i : Int))) := ⟨(HK.out.keep HB3.out.block).rd, .inr ⟨B.bb, rfl, fun i hi => cell_rowN hf1.back hi⟩⟩
  clear hf1
  go_wp2_with fail
  refine (equal9 xb _ (pre D.A D.V) _ _ (fun i => (back i : Int)) we2 HE1.out.1 HE1.out.2 (by omega)).mono ?_
  rintro e we ⟨rfl, hbe⟩
  have HB4 : Hid (Below wm.heap.size wm we) := below_then HB3.out hbe HB3.out.size
  clear g0 HE1 hbe HB3
  have HFE : Hid (FW B (netOf D.V D.A dst back left) lev l nx q we) := HFM.out.on HLM.out HB4.out.block
  have HOE : Hid (Rg wm.heap.size we xo (pre D.A D.V) left) := HO.out.keep HB4.out.block
  have HTE : Hid (Rg wm.heap.size we xt (pre D.A D.V) (fun i => (dst i : Int))) := HT.out.keep HB4.out.block
  have HKE : Hid (Rg wm.heap.size we xb (pre D.A D.V) (fun i => (back i : Int))) := HK.out.keep HB4.out.block
  obtain ⟨K, hK⟩ : ∃ K, D.n + D.k + 1 = K := ⟨_, rfl⟩
  have HKV : Hid (D.n + D.k + 1 = K) := hK
  have hKV : D.V = K + 1 := by rw [← hK]; rfl
  have HKW : Hid (D.V = K + 1) := hKV
  have hsub : (D.V : Int) - 1 = (K : Int) := by omega
  have hKl : (K : Int) < (D.V : Int) := by omega
  have hKl2 : K < D.V := by omega
  have hK1 : 1 ≤ K := by omega
  clear hK hKV
  obtain ⟨g0, g1, g2, g3, g4⟩ := HFE.out.plain
  have hV0 : (0 : Int) < (D.V : Int) := by omega
  have cv0 : we.cell? ⟨B.bv, 0, none⟩ = some (.int .i64 0) := by
    rw [cell_row HFE.out.level (show 0 < D.V by omega), HFD.out.zero]
  have cvK : we.cell? ⟨B.bv, K, none⟩ = some (.int .i64 (-1)) := by
    have h : lev K = -1 := by rw [← HKV.out]; exact (HFD.out.no rfl).1
    rw [cell_row HFE.out.level (show K < D.V from hKl2), h]
  go_wp2_with fail
  clear cv0 cvK g1 g3 HO HF HT HK HFM hsub hV0
  go_loopw [35] (fun i wr => ∃ (u m : Nat), u ≤ D.V ∧ i = .int .i64 u ∧ wr = we.drewN m) (fun i _ => D.V - (intOf i).toNat)
  case atStart => exact ⟨0, 0, Nat.zero_le _, rfl, rfl⟩
  case round =>
    obtain ⟨u, m, hu, rfl, rfl⟩ := hrel
    by_cases huV : u < D.V
    · have huV' : (u : Int) < (D.V : Int) := by omega
      have huV1 : (u : Int) < (D.V : Int) + 1 := by omega
      have huV2 : (u : Int) + 1 < (D.V : Int) + 1 := by omega
      have c1 : we.cell? ⟨B.bf, u, none⟩ = some (.int .i64 (pre D.A u : Int)) := cell_rowN HFE.out.first (show u < D.V + 1 by omega)
      have c2 : we.cell? ⟨B.bf, u + 1, none⟩ = some (.int .i64 (pre D.A (u + 1) : Int)) := cell_rowN HFE.out.first (show u + 1 < D.V + 1 by omega)
      have hp1 : pre D.A u ≤ pre D.A (u + 1) := pre_mono D.A (by omega)
      have hp2 : pre D.A (u + 1) ≤ 100000 := Nat.le_trans (pre_mono D.A huV) hEl
      go_wp2_with fail
      go_loopw [37, 36] (fun i nv wr => ∃ (e m : Nat) (z : Int), pre D.A u ≤ e ∧ e ≤ pre D.A (u + 1) ∧ i = .int .i64 e ∧ nv = .int .i64 z ∧ (∃ q : Int, z = part D left l u e - q * 18446744073709551616) ∧ (-9223372036854775808 ≤ z ∧ z ≤ 9223372036854775807) ∧ wr = we.drewN m) (fun i _ _ => pre D.A (u + 1) - (intOf i).toNat)
      case atStart => exact ⟨pre D.A u, _, 0, Nat.le_refl _, hp1, rfl, rfl, ⟨0, by unfold part; omega⟩, by omega, rfl⟩
      case round =>
        obtain ⟨e, m, z, he1, he2, rfl, rfl, hz, hzb, rfl⟩ := hrel
        have HZ : Hid (∃ q : Int, z = part D left l u e - q * 18446744073709551616) := hz
        clear hz
        by_cases hel : e < pre D.A (u + 1)
        · have hel' : (e : Int) < (pre D.A (u + 1) : Int) := by omega
          obtain ⟨heE, hbE, hdV, f1, f2, f3, ⟨f4, f5⟩, f6⟩ := edge_facts HFI.out HVL.out HFD.out huV he1 hel
          obtain ⟨go, rfl, ho⟩ := HOE.out.at heE
          obtain ⟨gb, rfl, hb⟩ := HKE.out.at heE
          obtain ⟨gt, rfl, ht⟩ := HTE.out.at heE
          have co := ho e heE
          have co2 := ho (back e) hbE
          have cb := hb e heE
          have ct := ht e heE
          have cl : we.cell? ⟨B.bl, e, none⟩ = some (.int .i64 (l e)) := cell_row HFE.out.left heE
          have cl2 : we.cell? ⟨B.bl, back e, none⟩ = some (.int .i64 (l (back e))) := cell_row HFE.out.left hbE
          have cv1 : we.cell? ⟨B.bv, u, none⟩ = some (.int .i64 (lev u)) := cell_row HFE.out.level huV
          have cv2 : we.cell? ⟨B.bv, dst e, none⟩ = some (.int .i64 (lev (dst e))) := cell_row HFE.out.level hdV
          have heE' : (e : Int) < (pre D.A D.V : Int) := by omega
          have hbE' : (back e : Int) < (pre D.A D.V : Int) := by omega
          have hdV' : (dst e : Int) < (D.V : Int) := by omega
          have f7 : -9223372036854775807 ≤ left (back e) - l (back e) ∧ left (back e) - l (back e) ≤ 9223372036854775807 := by omega
          have f8 : (left e - l e == -(left (back e) - l (back e))) = true := by simp; omega
          have f9 : (left e - l e == l (back e) - left (back e)) = true := by simp; omega
          have HF1 : Hid (left e < 0 → l e = left e) := f1
          have HF2 : Hid (0 ≤ left e → 0 ≤ l e) := f2
          have HF6 : Hid (0 ≤ lev u → lev (dst e) < 0 → l e ≤ 0) := f6
          clear ho hb ht f1 f2 f3 f6
          go_upto_if 324 with fail
          go_cut [] from 325 to 344 (fun wc => ∃ m, wc = we.drewN m)
          case first =>
            by_cases hneg : left e < 0
            · have hq : (l e == left e) = true := by simp [HF1.out hneg]
              go_wp2_with fail
              go_quiet (fail)
              go_wp2_with fail
              go_meet
              exact ⟨m + nq, by rw [World.drewN_drewN]⟩
            · have hq : ¬ l e < 0 := by have := HF2.out (by omega); omega
              go_wp2_with fail
              go_meet
              exact ⟨_, rfl⟩
          case rest =>
          obtain ⟨m2, rfl⟩ := hcut
          go_wp2_with fail
          go_quiet (fail)
          go_wp2_with fail
          go_quiet (fail)
          go_wp2_with fail
          have HZ2 : Hid ((∃ q : Int, wrap64 (z + (left e - l e)) = part D left l u (e + 1) - q * 18446744073709551616) ∧ (-9223372036854775808 ≤ wrap64 (z + (left e - l e)) ∧ wrap64 (z + (left e - l e)) ≤ 9223372036854775807)) := ⟨by rw [part_step]; exact wrap_step64 HZ.out, wrap64_in _⟩
          clear f8 f9 f7 f4 f5 HZ HF1 HF2 co co2 cb cl2
          go_cut [409] from 361 to 409 (fun t wc => t = .bool false ∧ ∃ m, wc = we.drewN m)
          case first =>
            by_cases ha : 0 ≤ lev u
            · have hda : decide (0 ≤ lev u) = true := decide_eq_true ha
              by_cases hb : lev (dst e) < 0
              · have hdb : decide (lev (dst e) < 0) = true := decide_eq_true hb
                have hdc : decide (0 < l e) = false := decide_eq_false (by have := HF6.out ha hb; omega)
                go_quiet (fail)
                go_wp2_with fail
                go_meet
                first | exact ⟨rfl, _, rfl⟩ | exact ⟨rfl, _, World.drewN_drewN _ _ _⟩
              · have hdb : decide (lev (dst e) < 0) = false := decide_eq_false hb
                go_quiet (fail)
                go_wp2_with fail
                go_meet
                first | exact ⟨rfl, _, rfl⟩ | exact ⟨rfl, _, World.drewN_drewN _ _ _⟩
            · have hda : decide (0 ≤ lev u) = false := decide_eq_false ha
              go_quiet (fail)
              go_wp2_with fail
              go_meet
              first | exact ⟨rfl, _, rfl⟩ | exact ⟨rfl, _, World.drewN_drewN _ _ _⟩
          case rest =>
          obtain ⟨rfl, m3, rfl⟩ := hcut
          go_wp2_with fail
          go_roundw
          case rel => exact ⟨e + 1, _, _, by omega, by omega, by go_num, rfl, HZ2.out.1, HZ2.out.2, rfl⟩
          case measure => simp [intOf]; omega
        · have he3 : e = pre D.A (u + 1) := by omega
          subst he3
          have hpe := part_end HFI.out HTL.out huV
          obtain ⟨qz, hqz⟩ := HZ.out
          rw [hpe] at hqz
          clear hpe HZ
          by_cases hu0 : u = 0
          · have hzs : s = z := by
              rw [if_pos (by omega), if_neg (by omega)] at hqz
              omega
            subst hzs
            subst hu0
            clear hqz
            go_wp2_with fail
            go_roundw
            case rel => exact ⟨1, _, by omega, by go_num, rfl⟩
            case measure => simp [intOf]; omega
          · have hub : ((u : Int) == 0) = false := by simp; omega
            by_cases huK : u = K
            · have hzs : -s = z := by
                rw [if_neg (by omega), if_pos (by have := HKV.out; omega)] at hqz
                omega
              subst hzs
              clear hqz
              have hub2 : ((u : Int) == (K : Int)) = true := by simp [huK]
              clear huK
              go_wp2_with fail
              go_roundw
              case rel => exact ⟨u + 1, _, by omega, by go_num, rfl⟩
              case measure => simp [intOf]; omega
            · have hzs : (0 : Int) = z := by
                rw [if_neg (by omega), if_neg (by have := HKV.out; omega)] at hqz
                omega
              subst hzs
              clear hqz
              have hub2 : ((u : Int) == (K : Int)) = false := by simp; omega
              go_wp2_with fail
              go_roundw
              case rel => exact ⟨u + 1, _, by omega, by go_num, rfl⟩
              case measure => simp [intOf]; omega
    · have hu2 : u = D.V := by omega
      subst hu2
      go_wp2_with fail
      go_ret
      exact ⟨rfl, below_drewN (below_then HBM.out.1 HB4.out HBM.out.2) m⟩

set_option maxRecDepth 100000 in
theorem restD_at {w wm wr : World} {D : Dt} {B : Blk} {dst back : Nat → Nat} {left lev l : Nat → Int} {nx : Nat → Nat} {q : Value} {s : Int} {xo xf xt xb : Option Addr} {co cf ct cb : Nat}
    {a : List Value}
    (hD : D.OK) (hfi : FI D.V D.A D.A dst back left) (hlm : B.Lt wm.heap.size) (hfm : FW B (netOf D.V D.A dst back left) lev l nx q wm) (hvl : Val (netOf D.V D.A dst back left) l) (htl : Total (netOf D.V D.A dst back left) l s) (hfd : Found (netOf D.V D.A dst back left) l lev false)
    (hro : Rg wm.heap.size wm xo (pre D.A D.V) left) (hrf : Rg wm.heap.size wm xf (D.V + 1) (fun i => (pre D.A i : Int))) (hrt : Rg wm.heap.size wm xt (pre D.A D.V) (fun i => (dst i : Int))) (hrk : Rg wm.heap.size wm xb (pre D.A D.V) (fun i => (back i : Int))) (hbm : Below w.heap.size w wm ∧ w.heap.size ≤ wm.heap.size)
    (hs0 : 0 ≤ s) (hs1 : s ≤ 1000000000000000) (hb1 : Below wm.heap.size wm wr) (ha : a = [slot a 0, slot a 1, slot a 2, slot a 3, slot a 4, slot a 5, slot a 6, slot a 7, slot a 8, slot a 9, slot a 10, slot a 11, slot a 12, slot a 13, slot a 14, slot a 15, slot a 16, slot a 17, .pointer (some ⟨B.F, 0, none⟩), .slice xo (pre D.A D.V) co, .slice xf (D.V + 1) cf, .slice xt (pre D.A D.V) ct, .slice xb (pre D.A D.V) cb, .int .i64 s, .int .i64 s, slot a 25, slot a 26, slot a 27, slot a 28, slot a 29, slot a 30, slot a 31, slot a 32, slot a 33, slot a 34, slot a 35, slot a 36, slot a 37, slot a 38, slot a 39, slot a 40, slot a 41, slot a 42, slot a 43, slot a 44, slot a 45, slot a 46, slot a 47, slot a 48, slot a 49, slot a 50, slot a 51, slot a 52, slot a 53, slot a 54, slot a 55, slot a 56, slot a 57, slot a 58, slot a 59, slot a 60, slot a 61, slot a 62, slot a 63, slot a 64, slot a 65, slot a 66, slot a 67, slot a 68, slot a 69, slot a 70, slot a 71, slot a 72, slot a 73, slot a 74, slot a 75, slot a 76, slot a 77, slot a 78, slot a 79, slot a 80, slot a 81, slot a 82, slot a 83, slot a 84, slot a 85, slot a 86, slot a 87, slot a 88, slot a 89, slot a 90, slot a 91, slot a 92, slot a 93, slot a 94, slot a 95, slot a 96, slot a 97, slot a 98, slot a 99, slot a 100, slot a 101, slot a 102, slot a 103, slot a 104, slot a 105, slot a 106, slot a 107, slot a 108, slot a 109, slot a 110, slot a 111, slot a 112, slot a 113, slot a 114, slot a 115, slot a 116, slot a 117, slot a 118, slot a 119, slot a 120, slot a 121, slot a 122, slot a 123, slot a 124, slot a 125, slot a 126, slot a 127, slot a 128, slot a 129, slot a 130, slot a 131, slot a 132, slot a 133, slot a 134, slot a 135, slot a 136, slot a 137, slot a 138, slot a 139, slot a 140, slot a 141, slot a 142, slot a 143, slot a 144, slot a 145, slot a 146, slot a 147, slot a 148, slot a 149, slot a 150, slot a 151, slot a 152, slot a 153, slot a 154, slot a 155, slot a 156, slot a 157, slot a 158, slot a 159, slot a 160, slot a 161, slot a 162, slot a 163, slot a 164, slot a 165, slot a 166, slot a 167, slot a 168, slot a 169, slot a 170, slot a 171, slot a 172, slot a 173, slot a 174, slot a 175, slot a 176, slot a 177, slot a 178, slot a 179, slot a 180, slot a 181, slot a 182, slot a 183, slot a 184, slot a 185, slot a 186, slot a 187, slot a 188, slot a 189, slot a 190, slot a 191, slot a 192, slot a 193, slot a 194, slot a 195, slot a 196, slot a 197, slot a 198, slot a 199, slot a 200, slot a 201, slot a 202, slot a 203, slot a 204, slot a 205, slot a 206, slot a 207, slot a 208, slot a 209, slot a 210, slot a 211, slot a 212, slot a 213, slot a 214, slot a 215, slot a 216, slot a 217, slot a 218, slot a 219, slot a 220, slot a 221, slot a 222, slot a 223, slot a 224, slot a 225, slot a 226, slot a 227, slot a 228, slot a 229, slot a 230, slot a 231, slot a 232, slot a 233, slot a 234, slot a 235, slot a 236, slot a 237, slot a 238, slot a 239, slot a 240, slot a 241, slot a 242, slot a 243, slot a 244, slot a 245, slot a 246, slot a 247, slot a 248, slot a 249, slot a 250, slot a 251, slot a 252, slot a 253, slot a 254, slot a 255, slot a 256, slot a 257, slot a 258, slot a 259, slot a 260, slot a 261, slot a 262, slot a 263, slot a 264, slot a 265, slot a 266, slot a 267, slot a 268, slot a 269, slot a 270, slot a 271, slot a 272, slot a 273, slot a 274, slot a 275, slot a 276, slot a 277, slot a 278, slot a 279, slot a 280, slot a 281, slot a 282, slot a 283, slot a 284, slot a 285, slot a 286, slot a 287, slot a 288, slot a 289, slot a 290, slot a 291, slot a 292, slot a 293, slot a 294, slot a 295, slot a 296, slot a 297, slot a 298, slot a 299, slot a 300, slot a 301, slot a 302, slot a 303, slot a 304, slot a 305, slot a 306, slot a 307, slot a 308, slot a 309, slot a 310, slot a 311, slot a 312, slot a 313, slot a 314, slot a 315, slot a 316, slot a 317, slot a 318, slot a 319, slot a 320, slot a 321, slot a 322, slot a 323, slot a 324, slot a 325, slot a 326, slot a 327, slot a 328, slot a 329, slot a 330, slot a 331, slot a 332, slot a 333, slot a 334, slot a 335, slot a 336, slot a 337, slot a 338, slot a 339, slot a 340, slot a 341, slot a 342, slot a 343, slot a 344, slot a 345, slot a 346, slot a 347, slot a 348, slot a 349, slot a 350, slot a 351, slot a 352, slot a 353, slot a 354, slot a 355, slot a 356, slot a 357, slot a 358, slot a 359, slot a 360, slot a 361, slot a 362, slot a 363, slot a 364, slot a 365, slot a 366, slot a 367, slot a 368, slot a 369, slot a 370, slot a 371, slot a 372, slot a 373, slot a 374, slot a 375, slot a 376, slot a 377, slot a 378, slot a 379, slot a 380, slot a 381, slot a 382, slot a 383, slot a 384, slot a 385, slot a 386, slot a 387, slot a 388, slot a 389, slot a 390, slot a 391, slot a 392, slot a 393, slot a 394, slot a 395, slot a 396, slot a 397, slot a 398, slot a 399, slot a 400, slot a 401, slot a 402, slot a 403, slot a 404, slot a 405, slot a 406, slot a 407, slot a 408, slot a 409, slot a 410, slot a 411, slot a 412, slot a 413, slot a 414, slot a 415, slot a 416, slot a 417, slot a 418, slot a 419, slot a 420, slot a 421, slot a 422, slot a 423]) :
    Code.wp Yba.prog (cdrop 20 (codeOf Yba.f3)) (bodyPost Yba.prog Yba.f3 fun e w' => e = .returned (.bool true) ∧ Below w.heap.size w w')
      ⟨a.toArray, []⟩ wr := by
  rw [ha]
  exact restD (slot a) hD hfi hlm hfm hvl htl hfd hro hrf hrt hrk hbm hs0 hs1 hb1
end Go.Proofs.Ybulkdxng.D
