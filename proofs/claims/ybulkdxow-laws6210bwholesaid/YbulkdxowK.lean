import Derived.Test.YbulkdxowJ
namespace Go.Proofs.Ybulkdxow.B
open Go.RowKit
set_option linter.unusedVariables false

/-- the rules that came in -/
def IsRules (w : World) (X : Option Addr) (N : Nat) (R : Nat → RD) : Prop :=
  N = 0 ∨ ∃ b o, X = some ⟨b, o, none⟩ ∧ 0 < N ∧ b < w.heap.size ∧ ∀ i, i < N → w.cell? ⟨b, o + i * 3, none⟩ = some (.bool (R i).g) ∧ w.cell? ⟨b, o + i * 3 + 1, none⟩ = some (.int .u8 (R i).K) ∧ w.cell? ⟨b, o + i * 3 + 2, none⟩ = some (.slice (R i).x (R i).n (R i).c) ∧
    (0 ≤ (R i).K ∧ (R i).K ≤ 255) ∧ (R i).n ≤ 70368744177664 ∧ IsL w (R i).x (R i).n (R i).ls
theorem IsRules.below {w w' : World} {X : Option Addr} {N : Nat} {R : Nat → RD} (h : IsRules w X N R) (hb : Below w.heap.size w w') : IsRules w' X N R := by
  rcases h with h | ⟨b, o, rfl, hn, hlt, hc⟩
  · exact .inl h
  · refine .inr ⟨b, o, rfl, hn, Nat.lt_of_lt_of_le hlt hb.size, fun i hi => ?_⟩
    obtain ⟨h0, h1, h2, h3, h4, h5⟩ := hc i hi
    exact ⟨by rw [hb.cell (p := ⟨b, _, none⟩) hlt]; exact h0, by rw [hb.cell (p := ⟨b, _, none⟩) hlt]; exact h1, by rw [hb.cell (p := ⟨b, _, none⟩) hlt]; exact h2, h3, h4, h5.below hb⟩
def sumN (R : Nat → RD) : Nat → Nat
  | 0 => 0
  | k + 1 => sumN R k + (R k).n
theorem sumN_le (R : Nat → RD) : ∀ k, (∀ i, i < k → (R i).n ≤ 70368744177664) → sumN R k ≤ k * 70368744177664
  | 0, _ => by simp [sumN]
  | k + 1, h => by
    have := sumN_le R k (fun i hi => h i (by omega))
    have := h k (by omega)
    simp only [sumN]
    omega
theorem le_sumN (R : Nat → RD) : ∀ k i, i < k → (R i).n ≤ sumN R k
  | 0, i, h => by omega
  | k + 1, i, h => by
    simp only [sumN]
    by_cases e : i = k
    · subst e; omega
    · have := le_sumN R k i (by omega); omega

set_option maxRecDepth 100000 in
set_option maxHeartbeats 800000 in
theorem law_many (X : Option Addr) (N C : Nat) (R : Nat → RD) (app rej : Int) (w : World) (hR : IsRules w X N R) (hN : 65536 < N) (hN2 : N ≤ 140737488355328) :
    Calls Yba.prog 4 #[.slice X N C, .int .u8 app, .int .u8 rej] w fun e w' => e = .returned (.bool true) ∧ Below w.heap.size w w' := by
  rcases hR with h | ⟨b, o, rfl, hn, hlt, hc⟩
  · omega
  have hN' : (65536 : Int) < (N : Int) := by omega
  go_enter Yba.func4, Yba.ntmps4
  go_wp2_with fail
  have hb2 : b < w.heap.size + 1 := by omega
  go_loop [7, 8] (fun t i => ∃ (k : Nat) (z : Int), k ≤ N ∧ i = .int .i64 k ∧ t = .int .i64 z) (fun _ i => N - (intOf i).toNat)
  case atStart => exact ⟨0, _, Nat.zero_le _, rfl, rfl⟩
  case round =>
    obtain ⟨k, z, hk, rfl, rfl⟩ := hrel
    by_cases hkn : k < N
    · obtain ⟨h0, h1, h2, _⟩ := hc k hkn
      have hkn' : (k : Int) < (N : Int) := by omega
      clear hc
      go_wp2_with fail
      go_round
      case rel => exact ⟨k + 1, _, by omega, by go_num, rfl⟩
      case measure => simp [intOf]; omega
    · clear hc
      go_wp2_with fail
      go_ret
      exact ⟨rfl, below_two w _ _⟩

theorem new_two (w : World) (a b : Value) (t : TypeId) : ∀ (j : Nat) (u : Value), [a, b][j]? = some u → (w.alloc (.cells #[a, b] t)).cell? ((⟨w.heap.size, 0, none⟩ : Addr).add j) = some u := by
  intro j u hj
  rw [Addr.add_lit, Nat.zero_add, World.cell?_alloc_new]
  match j, hj with
  | 0, hj => simpa using hj
  | 1, hj => simpa using hj

theorem keep_five {w2 w3 : World} {b o1 o2 o3 B : Nat} {v1 v2 v3 v4 v5 : Value} (p0 : w2.cell? ⟨b, o1, none⟩ = some v1) (p1 : w2.cell? ⟨b, o2, none⟩ = some v2) (p2 : w2.cell? ⟨b, o3, none⟩ = some v3) (p3 : w2.cell? ⟨B, 0, none⟩ = some v4) (p4 : w2.cell? ⟨B + 1, 0, none⟩ = some v5)
    (hlt : b < w2.heap.size) (hB : B + 2 < w2.heap.size) (hb : Below w2.heap.size w2.drew w3) : w3.cell? ⟨b, o1, none⟩ = some v1 ∧ w3.cell? ⟨b, o2, none⟩ = some v2 ∧ w3.cell? ⟨b, o3, none⟩ = some v3 ∧ w3.cell? ⟨B, 0, none⟩ = some v4 ∧ w3.cell? ⟨B + 1, 0, none⟩ = some v5 := by
  refine ⟨?_, ?_, ?_, ?_, ?_⟩
  · rw [hb.cell (p := ⟨b, o1, none⟩) hlt]; exact p0
  · rw [hb.cell (p := ⟨b, o2, none⟩) hlt]; exact p1
  · rw [hb.cell (p := ⟨b, o3, none⟩) hlt]; exact p2
  · rw [hb.cell (p := ⟨B, 0, none⟩) (by show B < _; omega)]; exact p3
  · rw [hb.cell (p := ⟨B + 1, 0, none⟩) (by show B + 1 < _; omega)]; exact p4

set_option maxRecDepth 100000 in
set_option maxHeartbeats 1600000 in
theorem law_few (X : Option Addr) (N C : Nat) (R : Nat → RD) (app rej : Int) (w : World) (hR : IsRules w X N R) (hN : N ≤ 65536) (ha0 : 0 ≤ app) (ha1 : app ≤ 255) (hr0 : 0 ≤ rej) (hr1 : rej ≤ 255) :
    Calls Yba.prog 4 #[.slice X N C, .int .u8 app, .int .u8 rej] w fun e w' => e = .returned (.bool true) ∧ Below w.heap.size w w' := by
  have hN' : ¬ (65536 : Int) < (N : Int) := by omega
  have HR : Hid (IsRules w X N R) := hR
  clear hR
  go_enter Yba.func4, Yba.ntmps4
  go_wp2_with fail
  go_loop [7, 8] (fun t i => ∃ (k : Nat), k ≤ N ∧ i = .int .i64 k ∧ t = .int .i64 ((N + sumN R k : Nat) : Int)) (fun _ i => N - (intOf i).toNat)
  case atStart => exact ⟨0, Nat.zero_le _, rfl, rfl⟩
  case round =>
    obtain ⟨k, hk, rfl, rfl⟩ := hrel
    by_cases hkn : k < N
    · rcases HR.out with h | ⟨b, o, rfl, hn, hlt, hc⟩
      · omega
      have hs := sumN_le R k (fun i hi => (hc i (by omega)).2.2.2.2.1)
      obtain ⟨h0, h1, h2, _, h4, _⟩ := hc k hkn
      have hb2 : b < w.heap.size + 1 := by omega
      have hkn' : (k : Int) < (N : Int) := by omega
      have es : sumN R (k + 1) = sumN R k + (R k).n := rfl
      have HE : Hid (sumN R (k + 1) = sumN R k + (R k).n) := es
      have hs2 : N + sumN R k ≤ 9000000000000000000 := by omega
      clear hc es hs
      generalize sumN R k = S at *
      go_wp2_with fail
      go_round
      case rel => exact ⟨k + 1, by omega, by go_num, by rw [HE.out]; go_num⟩
      case measure => simp [intOf]; omega
    · have hkn2 : k = N := by omega
      subst hkn2
      by_cases hbig : 1048576 < k + sumN R k
      · have hbig' : (1048576 : Int) < ((k + sumN R k : Nat) : Int) := by omega
        go_wp2_with fail
        go_ret
        exact ⟨rfl, below_two w _ _⟩
      · have hns : ∀ i, i < k → (R i).n ≤ 1048576 := fun i hi => by have := le_sumN R k i hi; omega
        have HNS : Hid (∀ i, i < k → (R i).n ≤ 1048576) := hns
        have hVb : ∀ i, vOf app rej R i = 0 ∨ vOf app rej R i = 1 ∨ vOf app rej R i = 2 := fun i => rV_bd _ _ _ _ _ _
        have HVb : Hid (∀ i, vOf app rej R i = 0 ∨ vOf app rej R i = 1 ∨ vOf app rej R i = 2) := hVb
        have hsm : k + sumN R k ≤ 1048576 := by omega
        have hmk := run_make_0n (P := Yba.prog) 42 47 _ _ _ Yba.underlying42 Yba.info47 k (by omega) (by omega)
        obtain ⟨M, hM⟩ : ∃ M, M = madeCells (Value.agg #[.pointer none, .map none]).cells (k * 2) := ⟨_, rfl⟩
        rw [← hM] at hmk
        have hMs : M.size = k * 2 := by rw [hM, size_madeCells]
        clear hM hns hVb
        go_wp2_with fail
        obtain ⟨W0, hW0⟩ : ∃ W0 : World, W0 = (w.alloc (Obj.cells #[Value.int .u8 app] 5)).alloc (Obj.cells #[Value.int .u8 rej] 5) := ⟨_, rfl⟩
        have hW0s : W0.heap.size = w.heap.size + 2 := by rw [hW0]; simp
        have hbW : Below w.heap.size w (W0.alloc (.cells M 47)) := by rw [hW0]; exact (below_two w _ _).alloc (by simp; omega) _
        have hca : (W0.alloc (.cells M 47)).cell? ⟨w.heap.size, 0, none⟩ = some (.int .u8 app) := by
          rw [World.cell?_alloc_lt _ _ _ (by simp [hW0s]), hW0, World.cell?_alloc_lt _ _ _ (by simp), World.cell?_alloc_new]; rfl
        have hcr : (W0.alloc (.cells M 47)).cell? ⟨w.heap.size + 1, 0, none⟩ = some (.int .u8 rej) := by
          rw [World.cell?_alloc_lt _ _ _ (by simp [hW0s]), hW0]
          have h := World.cell?_alloc_new (w := w.alloc (Obj.cells #[Value.int .u8 app] 5)) #[Value.int .u8 rej] 5 0
          rw [World.size_alloc] at h
          rw [h]; rfl
        have hom := World.ownsRow_made (base := w.heap.size + 2) (e := 47) (size := 2) W0 M k (by omega) (by unfold maxLen; omega) hMs
        rw [hW0s] at hom
        rw [← hW0]
        have HOM : Hid ((W0.alloc (.cells M 47)).ownsRow (w.heap.size + 2) 47 2 (.slice (some ⟨w.heap.size + 2, 0, none⟩) 0 k) 0 []) := hom
        clear hom hmk hW0
        obtain ⟨i0, hi, hz0, hz1, hz2⟩ := info_parts Yba.info47
        go_loopw [9, 10, 11, 12] (fun v r q i wr => ∃ (j : Nat) (xs : List Value) (b1 b2 : Bool), j ≤ k ∧ i = .int .i64 j ∧ v = .slice (some ⟨w.heap.size + 2, 0, none⟩) j k ∧ wr.ownsRow (w.heap.size + 2) 47 2 (.slice (some ⟨w.heap.size + 2, 0, none⟩) j k) j xs ∧ Built wr xs j R ∧ r = .bool b1 ∧ q = .bool b2 ∧ Hid (b1 = decide (0 < cntV (vOf app rej R) 2 j)) ∧ Hid (b2 = decide (0 < cntV (vOf app rej R) 0 j)) ∧ Below w.heap.size w wr ∧ w.heap.size + 2 < wr.heap.size ∧ wr.cell? ⟨w.heap.size, 0, none⟩ = some (.int .u8 app) ∧ wr.cell? ⟨w.heap.size + 1, 0, none⟩ = some (.int .u8 rej)) (fun _ _ _ i _ => k - (intOf i).toNat)
        case atStart => exact ⟨0, [], false, false, Nat.zero_le _, rfl, rfl, HOM.out, ⟨rfl, by omega⟩, rfl, rfl, rfl, rfl, hbW, by simp [hW0s], hca, hcr⟩
        case round =>
          obtain ⟨j, xs, b1, b2, hj, rfl, rfl, hown, hbt, rfl, rfl, HB1, HB2, hbel, hszr, hca', hcr'⟩ := hrel
          have HO : Hid (wr.ownsRow (w.heap.size + 2) 47 2 (.slice (some ⟨w.heap.size + 2, 0, none⟩) j k) j xs) := hown
          have HT : Hid (Built wr xs j R) := hbt
          clear hown hbt hca hcr hbW
          by_cases hjk : j < k
          · rcases HR.out with h | ⟨b, o, rfl, hn, hlt, hc⟩
            · omega
            obtain ⟨p0, p1, p2, hK, _, hL0⟩ := hc j hjk
            have hL := hL0.below hbel
            have q0 := p0
            have q1 := p1
            have q2 := p2
            rw [← hbel.cell (p := ⟨b, _, none⟩) hlt] at q0 q1 q2
            have hltr : b < wr.heap.size := by omega
            have hjk' : (j : Int) < (k : Int) := by omega
            have hnj := HNS.out j hjk
            have HL : Hid (IsL wr (R j).x (R j).n (R j).ls) := hL
            clear hc hL
            go_wp2_with fail
            refine (build_any (R j).g (R j).K (R j).x (R j).n (R j).c (R j).ls _ HL.out hK hnj).mono ?_
            rintro e w1 ⟨p, rfl, hP, hpw, hbw1⟩
            have hO1 : w1.ownsRow (w.heap.size + 2) 47 2 (.slice (some ⟨w.heap.size + 2, 0, none⟩) j k) j xs := HO.out.kept (row := none) ⟨hbw1.os, hbw1.tape, hbw1.output, hbw1.size, fun r hr _ => hbw1.block r hr⟩ (.inr (by simp [Value.ownBlock]))
            have HO1 : Hid (w1.ownsRow (w.heap.size + 2) 47 2 (.slice (some ⟨w.heap.size + 2, 0, none⟩) j k) j xs) := hO1
            have HP1 : Hid (PolP w1 p (R j).g (R j).K (R j).n (R j).ls) := hP
            clear hO1 hP
            go_wp2_with (at_builtin; refine wpList_append_fits _ rfl (.tmp 48) (.tmp 55) 42 rfl (w.heap.size + 2) 47 i0 2 Yba.underlying42 hi hz1 (w.heap.size + 2) j k xs rfl (HO1.out.alloc _) ⟨w1.heap.size, 0, none⟩ 1 1 [.pointer (some ⟨p, 0, none⟩), .map none] rfl rfl (new_two _ _ _ _) (by intro u hu; simp at hu; rcases hu with rfl | rfl <;> rfl) (by omega) ?_)
            intro w2 hown2 hgrow2
            have hb12 : Below wr.heap.size wr (w1.alloc (.cells #[.pointer (some ⟨p, 0, none⟩), .map none] 47)) := hbw1.alloc hbw1.size _
            have hb2 : Below w.heap.size w w2 := (hbel.trans (hb12.mono hbel.size)).grown hgrow2 (by have := hb12.size; omega) (by intro r hr; simp at hr; omega)
            obtain ⟨cur, hcurg⟩ : ∃ cur, (w1.alloc (.cells #[.pointer (some ⟨p, 0, none⟩), .map none] 47)).heap[w.heap.size + 2]? = some (.cells cur 47 (0, 0)) := by
              rcases (HO1.out.alloc (.cells #[.pointer (some ⟨p, 0, none⟩), .map none] 47)).2 with ⟨h, _⟩ | ⟨g, cap, cur, h, _, hg, _⟩
              · cases h
              · simp at h
                obtain ⟨rfl, _⟩ := h
                exact ⟨cur, hg⟩
            have hbt2 : Built w2 (xs ++ [.pointer (some ⟨p, 0, none⟩), .map none]) (j + 1) R := by
              refine ⟨by simp [HT.out.1]; omega, fun i hi => ?_⟩
              by_cases e : i = j
              · subst e
                refine ⟨p, ?_, ?_, ((HP1.out.below ((Below.refl _ _).alloc (Nat.le_refl _) _)).grown hcurg hgrow2)⟩
                · rw [List.getElem?_append_right (by rw [HT.out.1]; omega), HT.out.1]; simp
                · rw [List.getElem?_append_right (by rw [HT.out.1]; omega), HT.out.1, show 2 * i + 1 - 2 * i = 1 by omega]; rfl
              · obtain ⟨pp, x0, x1, hPP⟩ := HT.out.2 i (by omega)
                refine ⟨pp, ?_, ?_, (hPP.below hb12).grown hcurg hgrow2⟩
                · rw [List.getElem?_append_left (by rw [HT.out.1]; omega)]; exact x0
                · rw [List.getElem?_append_left (by rw [HT.out.1]; omega)]; exact x1
            have ca2 : w2.cell? ⟨w.heap.size, 0, none⟩ = some (.int .u8 app) := by
              rw [World.cell?_of_block (w := w1.alloc _) (hgrow2.block _ (by have := hb12.size; show w.heap.size < _; omega) (by simp)), hb12.cell (p := ⟨w.heap.size, 0, none⟩) (by show w.heap.size < _; omega)]
              exact hca'
            have cr2 : w2.cell? ⟨w.heap.size + 1, 0, none⟩ = some (.int .u8 rej) := by
              rw [World.cell?_of_block (w := w1.alloc _) (hgrow2.block _ (by have := hb12.size; show w.heap.size + 1 < _; omega) (by simp)), hb12.cell (p := ⟨w.heap.size + 1, 0, none⟩) (by show w.heap.size + 1 < _; omega)]
              exact hcr'
            rw [← hb2.cell (p := ⟨b, _, none⟩) hlt] at p0 p1 p2
            have hsz2 : w.heap.size + 2 < w2.heap.size := by have := hb12.size; have := hgrow2.size; omega
            have HO2 : Hid (w2.ownsRow (w.heap.size + 2) 47 2 (.slice (some ⟨w.heap.size + 2, 0, none⟩) (j + 1) k) (j + 1) (xs ++ [.pointer (some ⟨p, 0, none⟩), .map none])) := hown2
            have HT2 : Hid (Built w2 (xs ++ [.pointer (some ⟨p, 0, none⟩), .map none]) (j + 1) R) := hbt2
            have hL2 := hL0.below hb2
            have HL2 : Hid (IsL w2 (R j).x (R j).n (R j).ls) := hL2
            clear hown2 hbt2 hgrow2 hb12 hcurg HO1 HP1 hbw1 q0 q1 q2 hca' hcr' hbel HO HT hL2 hL0 HL
            go_wp2_with fail
            have hlt2 : b < w2.heap.size := by omega
            go_region_held3 (fun w' => w'.cell? ⟨b, o + j * 3, none⟩ = some (.bool (R j).g) ∧ w'.cell? ⟨b, o + j * 3 + 1, none⟩ = some (.int .u8 (R j).K) ∧ w'.cell? ⟨b, o + j * 3 + 2, none⟩ = some (.slice (R j).x (R j).n (R j).c) ∧ w'.cell? ⟨w.heap.size, 0, none⟩ = some (.int .u8 app) ∧ w'.cell? ⟨w.heap.size + 1, 0, none⟩ = some (.int .u8 rej))
              (first | exact keep_five p0 p1 p2 ca2 cr2 hlt2 hsz2 (by assumption) | go_keep)
              ((go_at_call 11; refine (model_any (R j).g (R j).K (R j).x (R j).n (R j).c (R j).ls app rej _ (by exact HL2.out) hK hnj ha0 ha1 hr0 hr1).mono ?_; rintro e w3 ⟨rfl, hb3⟩))
            have hbel3 : Below w.heap.size w w3 := hb2.drew.trans (hb3.mono (by show _ ≤ w2.heap.size; omega))
            have hO3 : w3.ownsRow (w.heap.size + 2) 47 2 (.slice (some ⟨w.heap.size + 2, 0, none⟩) (j + 1) k) (j + 1) (xs ++ [.pointer (some ⟨p, 0, none⟩), .map none]) := HO2.out.drew.kept (row := none) ⟨hb3.os, hb3.tape, hb3.output, hb3.size, fun r hr _ => hb3.block r hr⟩ (.inr (by simp [Value.ownBlock]))
            have hT3 : Built w3 (xs ++ [.pointer (some ⟨p, 0, none⟩), .map none]) (j + 1) R := by
              refine ⟨HT2.out.1, fun i hi => ?_⟩
              obtain ⟨pp, x0, x1, hPP⟩ := HT2.out.2 i hi
              have hPd : PolP w2.drew pp (R i).g (R i).K (R i).n (R i).ls := hPP
              exact ⟨pp, x0, x1, hPd.below hb3⟩
            have hkf := keep_five p0 p1 p2 ca2 cr2 hlt2 hsz2 hb3
            have ca3 := hkf.2.2.2.1
            have cr3 := hkf.2.2.2.2
            have hsz3 : w.heap.size + 2 < w3.heap.size := Nat.lt_of_lt_of_le hsz2 hb3.size
            have HO3 : Hid (w3.ownsRow (w.heap.size + 2) 47 2 (.slice (some ⟨w.heap.size + 2, 0, none⟩) (j + 1) k) (j + 1) (xs ++ [.pointer (some ⟨p, 0, none⟩), .map none])) := hO3
            have HT3 : Hid (Built w3 (xs ++ [.pointer (some ⟨p, 0, none⟩), .map none]) (j + 1) R) := hT3
            clear hO3 hT3 hkf p0 p1 p2 ca2 cr2 hb3 hb2 HO2 HT2 HL2
            rw [show rV app rej (R j).g (R j).K (R j).n (R j).ls = vOf app rej R j from rfl]
            have e2 : cntV (vOf app rej R) 2 (j + 1) = cntV (vOf app rej R) 2 j + if vOf app rej R j = 2 then 1 else 0 := rfl
            have e0 : cntV (vOf app rej R) 0 (j + 1) = cntV (vOf app rej R) 0 j + if vOf app rej R j = 0 then 1 else 0 := rfl
            have HE2 : Hid (cntV (vOf app rej R) 2 (j + 1) = cntV (vOf app rej R) 2 j + if vOf app rej R j = 2 then 1 else 0) := e2
            have HE0 : Hid (cntV (vOf app rej R) 0 (j + 1) = cntV (vOf app rej R) 0 j + if vOf app rej R j = 0 then 1 else 0) := e0
            clear e2 e0
            rcases HVb.out j with hv | hv | hv
            · have HVK : Hid (vOf app rej R j = 0) := hv
              rw [hv]
              clear hv
              go_wp2_with fail
              go_roundw
              case rel => exact ⟨j + 1, _, b1, true, by omega, by go_num, rfl, HO3.out, HT3.out, rfl, rfl, show _ = _ by rw [HE2.out, HVK.out]; simpa using HB1.out, show _ = _ by rw [HE0.out, HVK.out]; simp, hbel3, hsz3, ca3, cr3⟩
              case measure => simp [intOf]; omega
            · have HVK : Hid (vOf app rej R j = 1) := hv
              rw [hv]
              clear hv
              go_wp2_with fail
              go_roundw
              case rel => exact ⟨j + 1, _, b1, b2, by omega, by go_num, rfl, HO3.out, HT3.out, rfl, rfl, show _ = _ by rw [HE2.out, HVK.out]; simpa using HB1.out, show _ = _ by rw [HE0.out, HVK.out]; simpa using HB2.out, hbel3, hsz3, ca3, cr3⟩
              case measure => simp [intOf]; omega
            · have HVK : Hid (vOf app rej R j = 2) := hv
              rw [hv]
              clear hv
              go_wp2_with fail
              go_roundw
              case rel => exact ⟨j + 1, _, true, b2, by omega, by go_num, rfl, HO3.out, HT3.out, rfl, rfl, show _ = _ by rw [HE2.out, HVK.out]; simp, show _ = _ by rw [HE0.out, HVK.out]; simpa using HB2.out, hbel3, hsz3, ca3, cr3⟩
              case measure => simp [intOf]; omega
          · have hjk2 : j = k := by omega
            subst hjk2
            have hx : ∀ i, i < 2 * j → wr.cell? ⟨w.heap.size + 2, i, none⟩ = xs[i]? := by
              intro i hi
              have hl : i < xs.length := by rw [HT.out.1]; exact hi
              have := HO.out.cells (g := w.heap.size + 2) rfl i xs[i] (by simp [hl])
              rw [Addr.add_lit, Nat.zero_add] at this
              rw [this]; simp [hl]
            have hRj : ∀ i, i < j → (R i).n ≤ 1048576 ∧ (0 ≤ (R i).K ∧ (R i).K ≤ 255) ∧ ∀ q, q < (R i).n → 0 ≤ ((R i).ls q).1 ∧ ((R i).ls q).1 ≤ 255 := by
              intro i hi
              rcases HR.out with h | ⟨b, o, _, hn, hlt, hc⟩
              · omega
              obtain ⟨_, _, _, hK, _, hL⟩ := hc i hi
              refine ⟨HNS.out i hi, hK, fun q hq => ?_⟩
              rcases hL with h | ⟨_, _, _, _, _, hcc⟩
              · omega
              · exact (hcc q hq).2.2
            have HX : Hid (∀ i, i < 2 * j → wr.cell? ⟨w.heap.size + 2, i, none⟩ = xs[i]?) := hx
            have HRJ : Hid (∀ i, i < j → (R i).n ≤ 1048576 ∧ (0 ≤ (R i).K ∧ (R i).K ≤ 255) ∧ ∀ q, q < (R i).n → 0 ≤ ((R i).ls q).1 ∧ ((R i).ls q).1 ≤ 255) := hRj
            have HDV : Hid (dV (vOf app rej R) j = if 0 < cntV (vOf app rej R) 2 j then 2 else if 0 < cntV (vOf app rej R) 0 j then 0 else 1) := rfl
            clear hx hRj
            cases b1 with
            | true =>
              have hd : dV (vOf app rej R) j = 2 := by rw [HDV.out, if_pos (by simpa using HB1.out.symm)]
              have HD : Hid (dV (vOf app rej R) j = 2) := hd
              clear hd
              go_wp2_with fail
              refine (decide_any (w.heap.size + 2) j j w.heap.size (w.heap.size + 1) xs R app rej _ hN hszr HX.out HT.out HRJ.out ha0 ha1 hr0 hr1 hca' hcr' (by omega) (by omega)).mono ?_
              rintro e w3 ⟨rfl, hb3⟩
              rw [HD.out]
              go_wp2_with fail
              go_ret
              exact ⟨rfl, hbel.trans (hb3.mono hbel.size)⟩
            | false =>
              cases b2 with
              | true =>
                have hd : dV (vOf app rej R) j = 0 := by rw [HDV.out, if_neg (by simpa using HB1.out.symm), if_pos (by simpa using HB2.out.symm)]
                have HD : Hid (dV (vOf app rej R) j = 0) := hd
                clear hd
                go_wp2_with fail
                refine (decide_any (w.heap.size + 2) j j w.heap.size (w.heap.size + 1) xs R app rej _ hN hszr HX.out HT.out HRJ.out ha0 ha1 hr0 hr1 hca' hcr' (by omega) (by omega)).mono ?_
                rintro e w3 ⟨rfl, hb3⟩
                rw [HD.out]
                go_wp2_with fail
                go_ret
                exact ⟨rfl, hbel.trans (hb3.mono hbel.size)⟩
              | false =>
                have hd : dV (vOf app rej R) j = 1 := by rw [HDV.out, if_neg (by simpa using HB1.out.symm), if_neg (by simpa using HB2.out.symm)]
                have HD : Hid (dV (vOf app rej R) j = 1) := hd
                clear hd
                go_wp2_with fail
                refine (decide_any (w.heap.size + 2) j j w.heap.size (w.heap.size + 1) xs R app rej _ hN hszr HX.out HT.out HRJ.out ha0 ha1 hr0 hr1 hca' hcr' (by omega) (by omega)).mono ?_
                rintro e w3 ⟨rfl, hb3⟩
                rw [HD.out]
                go_wp2_with fail
                go_ret
                exact ⟨rfl, hbel.trans (hb3.mono hbel.size)⟩
end Go.Proofs.Ybulkdxow.B
