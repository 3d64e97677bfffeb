import Derived.Test.YbulkdxngB
import Derived.Deep.CutRange
import Derived.LaidEqlPtr
namespace Go.Proofs.Ybulkdxng
open Go.RowKit

theorem run_make_n {P : Program} (t e : TypeId) (z : Value) (size bytes : Nat) (ht : P.underlying t = some (.slice e)) (hi : (P.info? e).map (fun i => (i.zero, i.size, i.bytes)) = some (some z, size, bytes))
    (n : Nat) (hb : bytes * n ≤ 281474976710656) (h63 : n ≤ 9223372036854775807) (w : World) :
    (Instr.makeSlice t (.int .i64 (n : Int)) (.int .i64 (n : Int))).run P w = .ok (.slice (some ⟨w.heap.size, 0, none⟩) n n) (w.alloc (.cells (madeCells z.cells (n * size)) e)) := by
  obtain ⟨i, h1, h2, h3, h4⟩ := info_parts hi
  have hb' : (i.bytes : Int) * (n : Int) ≤ 281474976710656 := by
    rw [h4]
    have h : ((bytes * n : Nat) : Int) ≤ 281474976710656 := by omega
    rwa [Int.natCast_mul] at h
  have hr := run_make (P := P) w t e i z ht h1 h2 .i64 .i64 n n (by omega) (Int.le_refl _) hb' (by omega)
  simpa [h3] using hr

/-- the block of n zero Shapes -/
def SHa (n : Nat) : Array Value := madeCells #[.slice none 0 0, .map none, .nilFunc] (n * 3)
theorem SHa_at {n i : Nat} (hi : i < n) : (SHa n)[i * 3]? = some (.slice none 0 0) ∧ (SHa n)[i * 3 + 1]? = some (.map none) ∧ (SHa n)[i * 3 + 2]? = some .nilFunc := by
  have h0 : i * 3 < n * 3 := by omega
  have h1 : i * 3 + 1 < n * 3 := by omega
  have h2 : i * 3 + 2 < n * 3 := by omega
  have m0 : i * 3 % 3 = 0 := by omega
  have m1 : (i * 3 + 1) % 3 = 1 := by omega
  have m2 : (i * 3 + 2) % 3 = 2 := by omega
  simp [SHa, madeCells, h0, h1, h2, m0, m1, m2]

theorem setB (W : World) (o o' : Obj) (m : Nat) : ({ (W.alloc o).drewN m with heap := ((W.alloc o).drewN m).heap.setIfInBounds W.heap.size o' } : World) = (W.alloc o').drewN m := by
  have e : ((W.alloc o).drewN m).heap = W.heap.push o := rfl
  rw [e]
  have e2 : (W.heap.push o).setIfInBounds W.heap.size o' = W.heap.push o' := by
    apply Array.ext_getElem?
    intro k
    rw [Array.getElem?_setIfInBounds, Array.getElem?_push, Array.getElem?_push]
    by_cases hk : W.heap.size = k
    · subst hk; simp
    · have hk2 : ¬ k = W.heap.size := fun e => hk e.symm
      simp [hk, hk2]
  rw [e2]
  rfl

theorem run_neq_ptr {P : Program} (w : World) {tp te : TypeId} {j : TypeInfo} (G : Option Addr) (hp : P.underlying tp = some (.pointer te)) (hte : P.info? te = some j) :
    (binOp .neq tp (.pointer G) (.pointer G)).run P w = .ok (.bool false) w := by
  have h : ∀ d : Nat, (Op.equalIn (d + 1) tp (.pointer G) (.pointer G)).run P w = .ok true w := fun d => by
    cases G with
    | none => simp [Op.equalIn, run_underlying hp]
    | some a => simp [Op.equalIn, run_underlying hp, sizeOf, typeInfo, hte, run_sameAddr_same]
  simp only [binOp]
  simp [Op.equal, Op.maxDepth, h 9999]
theorem run_neq_nilFunc {P : Program} (w : World) {t : TypeId} {a b : Array TypeId} {v : Bool} (hp : P.underlying t = some (.func a b v)) :
    (binOp .neq t .nilFunc .nilFunc).run P w = .ok (.bool false) w := by
  have h : ∀ d : Nat, (Op.equalIn (d + 1) t .nilFunc .nilFunc).run P w = .ok true w := fun d => by
    simp [Op.equalIn, run_underlying hp]
  simp only [binOp]
  simp [Op.equal, Op.maxDepth, h 9999]
theorem cnt_le (ks : Nat → ByteArray) (i : Nat) : ∀ m, cnt ks i m ≤ m
  | 0 => Nat.le_refl _
  | m + 1 => by
    have := cnt_le ks i m
    simp only [cnt]
    split <;> omega
def Shapes (w : World) (S n : Nat) : Prop :=
  S < w.heap.size ∧ ∀ i, i < n → w.cell? ⟨S, i * 3, none⟩ = some (.slice none 0 0) ∧ w.cell? ⟨S, i * 3 + 1, none⟩ = some (.map none) ∧ w.cell? ⟨S, i * 3 + 2, none⟩ = some .nilFunc
theorem Shapes.below {w w' : World} {S n : Nat} (h : Shapes w S n) (hb : Below w.heap.size w w') : Shapes w' S n := by
  refine ⟨Nat.lt_of_lt_of_le h.1 hb.size, fun i hi => ?_⟩
  rw [hb.cell (p := ⟨S, _, none⟩) h.1, hb.cell (p := ⟨S, _, none⟩) h.1, hb.cell (p := ⟨S, _, none⟩) h.1]
  exact h.2 i hi
def IsShape (w : World) (sb : Nat) (y : Option Addr) (n c : Nat) (fs : Nat → ByteArray) (r : Option Nat) : Prop :=
  sb < w.heap.size ∧ w.cell? ⟨sb, 0, none⟩ = some (.slice y n c) ∧ w.cell? ⟨sb, 1, none⟩ = some (.map r) ∧ w.cell? ⟨sb, 2, none⟩ = some .nilFunc ∧ IsS w y n c fs

set_option maxRecDepth 100000 in
set_option maxHeartbeats 1000000 in
theorem law_small (nilRecv noMap : Bool) (y x : Option Addr) (nf cf n c : Nat) (fs ks : Nat → ByteArray) (f0 : ByteArray) (pick : Int) (w : World) (hF : IsS w y nf cf fs) (hK : IsS w x n c ks) (hp0 : 0 ≤ pick) (hp1 : pick ≤ 255) (hn : n ≤ 1024) (hnf : nf ≤ 1048576) :
    Calls Yba.prog 4 #[.bool nilRecv, .bool noMap, .slice y nf cf, .slice x n c, .string f0, .int .u8 pick] w fun e w' => e = .returned (.bool true) ∧ Below w.heap.size w w' := by
  have hn' : ¬ (1024 : Int) < (n : Int) := by omega
  have hnf' : ¬ (1048576 : Int) < (nf : Int) := by omega
  go_enter Yba.func4, Yba.ntmps4
  go_upto_region 3 with fail
  go_cut [39] from 32 to 39 (fun t wc => t = .bool (decide (pick % 2 = 0 ∧ 0 < n)) ∧ wc = w)
  case first =>
    go_wp2
    all_goals go_meet
    all_goals exact ⟨congrArg Value.bool (by simp; omega), rfl⟩
  case rest =>
  obtain ⟨rfl, rfl⟩ := hcut
  go_upto_if 39 with fail
  go_cut [4] from 32 to 48 (fun t wc' => ∃ f, t = .string f ∧ wc' = wc)
  case first =>
    by_cases hq : pick % 2 = 0 ∧ 0 < n
    · have hM' := hK
      rcases hM' with ⟨_, h, _⟩ | ⟨_, _, h⟩ | ⟨b, o, rfl, hpos, hlt, hc⟩
      · omega
      · omega
      have hq0 : 0 ≤ pick / 2 % (n : Int) := Int.emod_nonneg _ (by omega)
      have hq1 : pick / 2 % (n : Int) < (n : Int) := Int.emod_lt_of_pos _ (by omega)
      go_wp2
      go_meet
      exact ⟨_, rfl, rfl⟩
    · go_wp2
      go_meet
      exact ⟨_, rfl, rfl⟩
  case rest =>
  obtain ⟨f, rfl, rfl⟩ := hcut
  have hmk := run_make_n (P := Yba.prog) 38 43 _ _ _ Yba.underlying38 Yba.info43 n (by omega) (by omega)
  have hmk' : ∀ w : World, (Instr.makeSlice 38 (.int .i64 (n : Int)) (.int .i64 (n : Int))).run Yba.prog w = .ok (.slice (some ⟨w.heap.size, 0, none⟩) n n) (w.alloc (.cells (SHa n) 43)) := hmk
  clear hmk
  go_upto_if 53 with fail
  obtain ⟨w0, rfl⟩ : ∃ w0 : World, w0 = wc := ⟨_, rfl⟩
  go_cut [14] from 54 to 68 (fun t wc' => ∃ r, t = .map r ∧ (r = none ↔ noMap = true) ∧ MapAt wc' r w0.heap.size n ks ∧ Below (w0.heap.size + 1) (w0.alloc (.cells (SHa n) 43)) wc')
  case first =>
    cases noMap with
    | true =>
      go_wp2
      go_meet
      exact ⟨none, rfl, by simp, .inl rfl, Below.refl _ _⟩
    | false =>
      have hmm := @run_makeMap Yba.prog
      go_wp2
      clear hmm
      go_loopw [15] (fun i wr => ∃ (k m : Nat) (L : List Ent) (c' : Nat), k ≤ n ∧ i = .int .i64 k ∧ Says ks k L ∧ wr = ((w0.alloc (.cells (SHa n) 43)).alloc (.map (ents w0.heap.size L) c')).drewN m) (fun i _ => n - (intOf i).toNat)
      case atStart => exact ⟨0, 0, [], 0, Nat.zero_le _, rfl, says_zero ks, rfl⟩
      case round =>
        obtain ⟨k, m, L, c', hk, rfl, hs, rfl⟩ := hrel
        by_cases hlt : k < n
        · have hK' := hK
          rcases hK' with ⟨_, h, _⟩ | ⟨_, _, h⟩ | ⟨b, o, rfl, hpos, hltb, hc⟩
          · omega
          · omega
          have hck := hc k hlt
          have hltb2 : b < w0.heap.size + 1 := by omega
          have hlt' : (k : Int) < (n : Int) := by omega
          obtain ⟨L', c2, hs', hup⟩ := run_upd (P := Yba.prog) Yba.underlying39 Yba.underlying9 ks k w0.heap.size L c' hs
          have hup2 := fun m' => hup (w0.alloc (.cells (SHa n) 43)).heap.size (((w0.alloc (.cells (SHa n) 43)).alloc (.map (ents w0.heap.size L) c')).drewN m') (heap_alloc_new (w0.alloc (.cells (SHa n) 43)) _)
          simp only [setB] at hup2
          simp only [World.size_alloc] at hup2
          clear hup hs hc
          go_wp2
          go_region
          go_wp2
          go_roundw
          case rel => exact ⟨k + 1, _, L', c2, by omega, by go_num, hs', rfl⟩
          case measure => simp [intOf]; omega
        · have hz : k = n := by omega
          subst hz
          have HS : Hid (Says ks k L) := hs
          clear hs
          go_wp2
          go_meet
          refine ⟨some (w0.heap.size + 1), rfl, by simp, .inr ⟨w0.heap.size + 1, L, c', rfl, ?_, ?_, HS.out⟩, ?_⟩
          · show w0.heap.size + 1 < ((w0.alloc _).alloc _).heap.size
            simp
          · have h := heap_alloc_new (w0.alloc (.cells (SHa k) 43)) (.map (ents w0.heap.size L) c')
            rw [World.size_alloc] at h
            exact h
          · have h := (Below.refl (w0.heap.size + 1) (w0.alloc (.cells (SHa k) 43))).alloc (by simp) (.map (ents w0.heap.size L) c')
            exact ⟨h.os, h.tape, h.output, h.size, h.block⟩
  case rest =>
  obtain ⟨r, rfl, hr, hM, hB⟩ := hcut
  have hB0 : Below w0.heap.size w0 wc := ((Below.refl _ _).alloc (Nat.le_refl _) _).trans (hB.mono (by omega))
  have hF1 := hF.below hB0
  have hK1 := hK.below hB0
  have hSh : Shapes wc w0.heap.size n := by
    refine ⟨Nat.lt_of_lt_of_le (by simp) hB.size, fun i hi => ?_⟩
    obtain ⟨h0, h1, h2⟩ := SHa_at hi
    rw [hB.cell (p := ⟨w0.heap.size, _, none⟩) (Nat.lt_succ_self _), hB.cell (p := ⟨w0.heap.size, _, none⟩) (Nat.lt_succ_self _), hB.cell (p := ⟨w0.heap.size, _, none⟩) (Nat.lt_succ_self _)]
    simp [World.cell?_alloc_new, h0, h1, h2]
  have HR : Hid (r = none ↔ noMap = true) := hr
  clear hr hF hK hB hmk'
  go_upto_if 70 with fail
  obtain ⟨w1, rfl⟩ : ∃ w1 : World, w1 = wc := ⟨_, rfl⟩
  go_cut [16] from 71 to 75 (fun t wc' => ∃ p, t = .pointer p ∧ ((nilRecv = true ∧ p = none) ∨ (nilRecv = false ∧ ∃ sb y' cf', p = some ⟨sb, 0, none⟩ ∧ IsShape wc' sb y' nf cf' fs r)) ∧ Below w1.heap.size w1 wc')
  case first =>
    cases nilRecv with
    | true =>
      go_wp2
      go_meet
      exact ⟨none, rfl, .inl ⟨by simp, rfl⟩, Below.refl _ _⟩
    | false =>
      go_wp2_with fail
      refine (clone_any y nf cf fs _ hF1 hnf).mono ?_
      rintro e w2 ⟨y', cf', rfl, hS', hb2⟩
      go_wp2_with fail
      go_meet
      have hal : Below w2.heap.size w2 (w2.alloc (Obj.cells #[Value.slice y' nf cf', Value.map r, Value.nilFunc] 43)) := (Below.refl _ _).alloc (Nat.le_refl _) _
      refine ⟨_, rfl, .inr ⟨by simp, w2.heap.size, y', cf', rfl, ?_⟩, hb2.trans (hal.mono hb2.size)⟩
      refine ⟨by simp, ?_, ?_, ?_, hS'.below hal⟩
      · simp [World.cell?_alloc_new]
      · simp [World.cell?_alloc_new]
      · simp [World.cell?_alloc_new]
  case rest =>
  obtain ⟨p, rfl, hp, hB1⟩ := hcut
  have hM2 := hM.below hB1
  have hK2 := hK1.below hB1
  have hF2 := hF1.below hB1
  have hSh2 := hSh.below hB1
  have hB2 : Below w0.heap.size w0 wc := hB0.trans (hB1.mono hB0.size)
  have HP : Hid ((nilRecv = true ∧ p = none) ∨ (nilRecv = false ∧ ∃ sb y' cf', p = some ⟨sb, 0, none⟩ ∧ IsShape wc sb y' nf cf' fs r)) := hp
  clear hp hM hK1 hF1 hSh hB1 hB0
  go_wp2_with fail
  have hp2 : p = none ∨ ∃ sb, p = some ⟨sb, 0, none⟩ ∧ wc.cell? ⟨sb, 1, none⟩ = some (.map r) := by
    rcases HP.out with ⟨_, h⟩ | ⟨_, sb, y', cf', h, hs⟩
    · exact .inl h
    · exact .inr ⟨sb, h, hs.2.2.1⟩
  refine (items_any p r w0.heap.size n ks f _ hp2 hM2).mono ?_
  rintro e w' ⟨rfl, rfl⟩
  clear hp2
  obtain ⟨w2, rfl⟩ : ∃ w2 : World, w2 = w' := ⟨_, rfl⟩
  go_upto_region 18 with fail
  go_cut [88] from 79 to 88 (fun t wc' => ∃ bq : Bool, t = .bool bq ∧ Hid (bq = decide (nilRecv = false ∧ f ≠ ⟨#[]⟩ ∧ r ≠ none)) ∧ wc' = w2)
  case first =>
    have hmn := fun (w : World) => run_neq_map_nil (P := Yba.prog) w 39 9 40 r Yba.underlying39
    cases nilRecv with
    | true =>
      go_wp2
      go_meet
      exact ⟨_, rfl, show _ = _ by simp, rfl⟩
    | false =>
      by_cases hf : f = ⟨#[]⟩
      · have hf' : f.toList.isEmpty = true := (toList_empty f).2 hf
        have Hf : Hid (f = ⟨#[]⟩) := hf
        clear hf
        go_wp2
        go_meet
        exact ⟨_, rfl, show _ = _ by simp [Hf.out], rfl⟩
      · have hf' : f.toList.isEmpty = false := by
          cases h : f.toList.isEmpty with
          | false => rfl
          | true => exact absurd ((toList_empty f).1 h) hf
        have Hf : Hid (f ≠ ⟨#[]⟩) := hf
        clear hf
        go_wp2
        go_meet
        exact ⟨_, rfl, show _ = _ by have := Hf.out; cases r <;> simp [this], rfl⟩
  case rest =>
  obtain ⟨bq, rfl, HQ, rfl⟩ := hcut
  obtain ⟨w3, rfl⟩ : ∃ w3 : World, w3 = wc := ⟨_, rfl⟩
  generalize hG : GG p r w0.heap.size n ks f = G at *
  have HG : Hid (GG p r w0.heap.size n ks f = G) := hG
  clear hG
  go_upto_if 88 with fail
  go_cut [18] from 89 to 96 (fun t wc' => t = .pointer G ∧ wc' = w3)
  case first =>
    cases bq with
    | true =>
      have hq : nilRecv = false ∧ f ≠ ⟨#[]⟩ ∧ r ≠ none := by simpa using HQ.out.symm
      have hG : G = (lastIdx ks n f).map fun j => ⟨w0.heap.size, j * 3, none⟩ := by
        have hpn : p ≠ none := by
          rcases HP.out with ⟨h, _⟩ | ⟨_, sb, y', cf', h, hs⟩
          · rw [h] at hq; simp at hq
          · rw [h]; simp
        rw [← HG.out]
        simp [GG, FF, hpn, hq.2.1, hq.2.2]
      have HG2 : Hid (G = (lastIdx ks n f).map fun j => ⟨w0.heap.size, j * 3, none⟩) := hG
      clear hG hq
      go_wp2_with fail
      refine (last_any x n c ks f _ hK2 (by omega)).mono ?_
      rintro e w' ⟨rfl, rfl⟩
      cases hl : lastIdx ks n f with
      | none =>
        rw [lastI_none hl]
        have hG3 : G = none := by rw [HG2.out, hl]; rfl
        have HG3 : Hid (G = none) := hG3
        clear hl hG3
        go_wp2_with fail
        go_meet
        exact ⟨by rw [HG3.out], rfl⟩
      | some j =>
        have hj := (lastIdx_lt hl).1
        have hj' : (j : Int) < (n : Int) := by omega
        rw [lastI_some hl]
        have hG3 : G = some ⟨w0.heap.size, j * 3, none⟩ := by rw [HG2.out, hl]; rfl
        have HG3 : Hid (G = some ⟨w0.heap.size, j * 3, none⟩) := hG3
        clear hl hG3
        go_wp2_with fail
        go_meet
        exact ⟨by rw [HG3.out], rfl⟩
    | false =>
      have hq : ¬ (nilRecv = false ∧ f ≠ ⟨#[]⟩ ∧ r ≠ none) := by simpa using HQ.out.symm
      have hG : G = none := by
        rw [← HG.out]
        rcases HP.out with ⟨_, h⟩ | ⟨hnr, sb, y', cf', h, hs⟩
        · simp [GG, h]
        · by_cases hf : f = ⟨#[]⟩
          · simp [GG, hf]
          · have hrn : r = none := by
              cases r with
              | none => rfl
              | some v => exact absurd ⟨hnr, hf, by simp⟩ hq
            simp [GG, FF, hrn]
      have HG3 : Hid (G = none) := hG
      clear hG hq
      go_wp2
      go_meet
      exact ⟨by rw [HG3.out], rfl⟩
  case rest =>
  obtain ⟨rfl, rfl⟩ := hcut
  obtain ⟨w4, rfl⟩ : ∃ w4 : World, w4 = wc := ⟨_, rfl⟩
  clear HG HQ
  obtain ⟨i43, hi43, _⟩ := info_parts Yba.info43
  have hgg := fun (w : World) => run_neq_ptr (P := Yba.prog) w G Yba.underlying40 hi43
  go_wp2_with fail
  clear hgg
  have hsn := fun (w : World) => run_neq_slice_nil_any (P := Yba.prog) w 37 9 none 0 0 0 0 Yba.underlying37
  have hmn := fun (w : World) => run_neq_map_nil (P := Yba.prog) w 39 9 40 none Yba.underlying39
  have hfn := fun (w : World) => run_neq_nilFunc (P := Yba.prog) w Yba.underlying41
  go_loop [20] (fun i => ∃ k : Nat, k ≤ n ∧ i = .int .i64 k) (fun i => n - (intOf i).toNat)
  case atStart => exact ⟨0, Nat.zero_le _, rfl⟩
  case round =>
    obtain ⟨k, hk, rfl⟩ := hrel
    by_cases hlt : k < n
    · obtain ⟨h0, h1, h2⟩ := hSh2.2 k hlt
      have hlt' : (k : Int) < (n : Int) := by omega
      go_wp2_with fail
      go_round
      case rel => exact ⟨k + 1, by omega, by go_num⟩
      case measure => simp [intOf]; omega
    · rcases HP.out with ⟨hnr, rfl⟩ | ⟨hnr, sb, y', cf', rfl, hsb, hs0, hs1, hs2, hsS⟩
      · clear hnr
        go_wp2_with fail
        go_ret
        exact ⟨rfl, hB2⟩
      · clear hnr
        go_wp2_with fail
        refine (equal_any y' y nf cf' cf fs _ hsS hF2 hnf).mono ?_
        rintro e w' ⟨rfl, m0, rfl⟩
        cases noMap with
        | true =>
          have hrn : r = none := HR.out.2 rfl
          subst hrn
          have hme := fun (w : World) => run_eql_map_nil (P := Yba.prog) w 39 9 40 none Yba.underlying39
          go_wp2_with fail
          go_ret
          exact ⟨rfl, below_drewN hB2 _⟩
        | false =>
          have hrn : r ≠ none := by
            intro h
            have := HR.out.1 h
            cases this
          have HRN : Hid (r ≠ none) := hrn
          clear hrn
          go_wp2_with fail
          clear hsn hmn hfn
          go_loopw [21, 22] (fun d j wr => ∃ k m : Nat, k ≤ n ∧ d = .int .i64 (cnt ks n k) ∧ j = .int .i64 k ∧ wr = w4.drewN m) (fun _ j _ => n - (intOf j).toNat)
          case atStart => exact ⟨0, m0, Nat.zero_le _, rfl, rfl, rfl⟩
          case round =>
            obtain ⟨k, m, hk, rfl, rfl, rfl⟩ := hrel
            by_cases hlt : k < n
            · have hK' := hK2
              rcases hK' with ⟨_, h, _⟩ | ⟨_, _, h⟩ | ⟨b, o, rfl, hpos, hltb, hc⟩
              · omega
              · omega
              have hck := hc k hlt
              have hlt' : (k : Int) < (n : Int) := by omega
              obtain ⟨l, hl, hln⟩ := lastIdx_some (ks := ks) hlt
              have hln' : (l : Int) < (n : Int) := by omega
              have hcb := cnt_le ks n k
              have hcs : cnt ks n (k + 1) = cnt ks n k + if lastIdx ks n (ks k) = some k then 1 else 0 := rfl
              have HL : Hid (lastIdx ks n (ks k) = some l) := hl
              have HC : Hid (cnt ks n (k + 1) = cnt ks n k + if lastIdx ks n (ks k) = some k then 1 else 0) := hcs
              have hFF : FF r w0.heap.size n ks (ks k) = some ⟨w0.heap.size, l * 3, none⟩ := by
                have := HRN.out
                simp [FF, this, hl]
              have hlook : ∀ m', (Instr.lookup 39 (.map r) (.string (ks k)) false).run Yba.prog (w4.drewN m') = .ok (.pointer (some ⟨w0.heap.size, l * 3, none⟩)) (w4.drewN m') := by
                intro m'
                have := (hM2.drew m').look (ks k)
                rw [hFF] at this
                exact this
              have hI : lastI ks n (ks k) = l := lastI_some hl
              have HI : Hid (lastI ks n (ks k) = l) := hI
              have hgg := fun (w : World) => run_neq_ptr (P := Yba.prog) w (some ⟨w0.heap.size, l * 3, none⟩) Yba.underlying40 hi43
              clear hl hcs hFF hI hc
              go_wp2_with fail
              refine (last_any (some ⟨b, o, none⟩) n c ks (ks k) _ (show IsS (w4.drewN m) (some ⟨b, o, none⟩) n c ks from hK2) (by omega)).mono ?_
              rintro e w' ⟨rfl, rfl⟩
              rw [HI.out]
              by_cases hlk : (l : Int) = k
              · have hlkn : l = k := by omega
                have hcnt : cnt ks n (k + 1) = cnt ks n k + 1 := by rw [HC.out, HL.out, hlkn]; simp
                have HCN : Hid (cnt ks n (k + 1) = cnt ks n k + 1) := hcnt
                clear hlkn hcnt
                have hbb : ((l : Int) == (k : Int)) = true := by simpa using hlk
                clear hlk
                go_wp2_with fail
                go_quiet (fail)
                go_wp2_with fail
                go_roundw
                case rel => exact ⟨k + 1, _, by omega, by rw [HCN.out]; go_num, by go_num, rfl⟩
                case measure => simp [intOf]; omega
              · have hlkn : l ≠ k := by omega
                have hcnt : cnt ks n (k + 1) = cnt ks n k := by rw [HC.out, HL.out]; simp [hlkn]
                have HCN : Hid (cnt ks n (k + 1) = cnt ks n k) := hcnt
                clear hlkn hcnt
                have hbb : ((l : Int) == (k : Int)) = false := by simpa using hlk
                clear hlk
                go_wp2_with fail
                go_quiet (fail)
                go_wp2_with fail
                go_roundw
                case rel => exact ⟨k + 1, _, by omega, by rw [HCN.out], by go_num, rfl⟩
                case measure => simp [intOf]; omega
            · have hz : k = n := by omega
              subst hz
              have hlen := (hM2.drew m).len HRN.out
              go_wp2_with fail
              go_ret
              exact ⟨rfl, below_drewN hB2 _⟩

set_option maxRecDepth 100000 in
set_option maxHeartbeats 400000 in
theorem law_big1 (nilRecv noMap : Bool) (y x : Option Addr) (nf cf n c : Nat) (f0 : ByteArray) (pick : Int) (w : World) (hn : 1024 < n) :
    Calls Yba.prog 4 #[.bool nilRecv, .bool noMap, .slice y nf cf, .slice x n c, .string f0, .int .u8 pick] w fun e w' => e = .returned (.bool true) ∧ Below w.heap.size w w' := by
  have hn' : (1024 : Int) < (n : Int) := by omega
  go_enter Yba.func4, Yba.ntmps4
  go_wp2_with fail
  go_ret
  exact ⟨rfl, Below.refl _ _⟩
set_option maxRecDepth 100000 in
set_option maxHeartbeats 400000 in
theorem law_big2 (nilRecv noMap : Bool) (y x : Option Addr) (nf cf n c : Nat) (f0 : ByteArray) (pick : Int) (w : World) (hn : n ≤ 1024) (hnf : 1048576 < nf) :
    Calls Yba.prog 4 #[.bool nilRecv, .bool noMap, .slice y nf cf, .slice x n c, .string f0, .int .u8 pick] w fun e w' => e = .returned (.bool true) ∧ Below w.heap.size w w' := by
  have hn' : ¬ (1024 : Int) < (n : Int) := by omega
  have hn2 : (1048576 : Int) < (nf : Int) := by omega
  go_enter Yba.func4, Yba.ntmps4
  go_wp2_with fail
  go_ret
  exact ⟨rfl, Below.refl _ _⟩
theorem law_any (nilRecv noMap : Bool) (y x : Option Addr) (nf cf n c : Nat) (fs ks : Nat → ByteArray) (f0 : ByteArray) (pick : Int) (w : World) (hF : IsS w y nf cf fs) (hK : IsS w x n c ks) (hp : 0 ≤ pick ∧ pick ≤ 255) :
    Calls Yba.prog 4 #[.bool nilRecv, .bool noMap, .slice y nf cf, .slice x n c, .string f0, .int .u8 pick] w fun e w' => e = .returned (.bool true) ∧ Below w.heap.size w w' := by
  by_cases h1 : 1024 < n
  · exact law_big1 nilRecv noMap y x nf cf n c f0 pick w h1
  · by_cases h2 : 1048576 < nf
    · exact law_big2 nilRecv noMap y x nf cf n c f0 pick w (by omega) h2
    · exact law_small nilRecv noMap y x nf cf n c fs ks f0 pick w hF hK hp.1 hp.2 (by omega) (by omega)
end Go.Proofs.Ybulkdxng
