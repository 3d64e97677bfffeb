import Derived.Test.YbulkdxowD
import Derived.LaidEqlPtr
namespace Go.Proofs.Ybulkdxow
open Go.RowKit

theorem isB_of_owns {w : World} {base : Nat} {v : Value} {n : Nat} {zs : List Int} (h : w.ownsRow base 5 1 v n (zs.map (Value.int .u8))) (hz : Bytes zs) : ∃ x c, v = .slice x n c ∧ IsB w x n c (fun i => zs.getD i 0) := by
  rcases h.2 with ⟨rfl, rfl⟩ | ⟨g, cap, cur, rfl, hb, hg, hnc, hcm, hcs, htake⟩
  · exact ⟨_, _, rfl, .inl ⟨rfl, rfl, rfl⟩⟩
  · refine ⟨_, _, rfl, ?_⟩
    by_cases h0 : n = 0
    · exact .inr (.inl ⟨_, rfl, h0⟩)
    · refine .inr (.inr ⟨g, 0, rfl, by omega, hnc, (Array.getElem?_eq_some_iff.1 hg).1, fun i hi => ?_⟩)
      have hl : i < zs.length := by have := h.1; simp at this; omega
      have := h.cells (g := g) rfl i (.int .u8 (zs.getD i 0)) (by simp [hl])
      refine ⟨by simpa [Addr.add_lit] using this, ?_⟩
      have hm : zs.getD i 0 ∈ zs := by simp [hl]
      exact hz _ hm
theorem isB_list {w : World} {x : Option Addr} {n c : Nat} {bs : Nat → Int} (h : IsB w x n c bs) : Bytes ((List.range n).map bs) := by
  intro z hz
  obtain ⟨i, hi, rfl⟩ := List.mem_map.1 hz
  have hi' : i < n := by simpa using hi
  rcases h with ⟨_, h, _⟩ | ⟨_, _, h⟩ | ⟨b, o, rfl, hpos, hnc, hltb, hc⟩
  · omega
  · omega
  · exact (hc i hi').2
theorem isB_cells {w : World} {ad : Addr} {n c : Nat} {bs : Nat → Int} (h : IsB w (some ad) n c bs) : ∀ j u, (((List.range n).map bs).map (Value.int .u8))[j]? = some u → w.cell? (ad.add j) = some u := by
  intro j u hj
  have hj3 : j < n := by
    have := (List.getElem?_eq_some_iff.1 hj).1
    simpa using this
  simp [hj3] at hj
  subst hj
  rcases h with ⟨h, _⟩ | ⟨_, _, h⟩ | ⟨b, o, h, hpos, hnc, hltb, hc⟩
  · cases h
  · omega
  · simp at h
    subst h
    rw [Addr.add_lit]
    exact (hc j hj3).1
theorem isB_congr {w : World} {x : Option Addr} {n c : Nat} {bs bs' : Nat → Int} (h : IsB w x n c bs) (he : ∀ i, i < n → bs i = bs' i) : IsB w x n c bs' := by
  rcases h with h | h | ⟨b, o, rfl, hn, hnc, hlt, hc⟩
  · exact .inl h
  · exact .inr (.inl h)
  · exact .inr (.inr ⟨b, o, rfl, hn, hnc, hlt, fun i hi => by rw [← he i hi]; exact hc i hi⟩)

theorem bit_eq (q : Int) (j : Nat) (h0 : 0 ≤ q) (h1 : q ≤ 255) (hj : j < 8) : bitR q j = (bits BinOp.and IntKind.u8 (q / 2 ^ j) 1 == 1) := by
  obtain ⟨n, rfl⟩ := Int.eq_ofNat_of_zero_le h0
  have hn : n < 256 := by omega
  have key : ∀ (m : Fin 256) (i : Fin 8), bitR ((m.val : Nat) : Int) i.val = (bits BinOp.and IntKind.u8 (((m.val : Nat) : Int) / 2 ^ i.val) 1 == 1) := by decide +kernel
  exact key ⟨n, hn⟩ ⟨j, hj⟩
theorem run_neq_err (w : World) (a : Addr) : (binOp .neq 26 (.iface 54 (.pointer (some a))) (.iface 54 (.pointer (some a)))).run Yba.prog w = .ok (.bool false) w := by
  obtain ⟨i, h1, h2⟩ : ∃ i, Yba.prog.info? 54 = some i ∧ i.comparable = true := by
    have h : (Yba.prog.info? 54).map (·.comparable) = some true := by kernel_rfl
    obtain ⟨i, h1, h2⟩ := Option.map_eq_some_iff.1 h
    exact ⟨i, h1, h2⟩
  obtain ⟨j, h3⟩ : ∃ j, Yba.prog.info? 56 = some j := by
    have h : (Yba.prog.info? 56).isSome = true := by kernel_rfl
    exact Option.isSome_iff_exists.1 h
  have hp : ∀ d : Nat, (Op.equalIn (d + 2) 26 (.iface 54 (.pointer (some a))) (.iface 54 (.pointer (some a)))).run Yba.prog w = .ok true w := fun d => by
    simp [Op.equalIn, run_underlying Yba.underlying26, run_underlying Yba.underlying54, sizeOf, typeInfo, h1, h2, h3, run_sameAddr_same]
  simp only [binOp]
  simp [Op.equal, Op.maxDepth, hp 9998]

set_option maxRecDepth 100000 in
set_option maxHeartbeats 1600000 in
theorem law_small (x0 x3 : Option Addr) (n0 c0 n3 c3 : Nat) (r0 r3 : Nat → Int) (build preErr : Bool) (k : Int) (w : World) (h0 : IsB w x0 n0 c0 r0) (h3 : IsB w x3 n3 c3 r3) (hk0 : 0 ≤ k) (hk1 : k ≤ 18446744073709551615) (hn0 : n0 ≤ 1048576) (hn3 : n3 ≤ 1048576) :
    Calls Yba.prog 3 #[.slice x0 n0 c0, .bool build, .int .u64 k, .slice x3 n3 c3, .bool preErr] w fun e w' => e = .returned (.bool true) ∧ Below w.heap.size w w' := by
  have hn0' : ¬ (1048576 : Int) < (n0 : Int) := by omega
  have hn3' : ¬ (1048576 : Int) < (n3 : Int) := by omega
  obtain ⟨i0, hi, hz0, hz1, hz2⟩ := info_parts Yba.info5
  go_enter Yba.func3, Yba.ntmps3
  go_upto_if 34 with fail
  go_cut [11] from 35 to 46 (fun t wc => ∃ x N c bs, t = .slice x N c ∧ IsB wc x N c bs ∧ N ≤ 1073741824 ∧ Below w.heap.size w wc)
  case first =>
    cases build with
    | false =>
      go_wp2_with fail
      go_meet
      exact ⟨x0, n0, c0, r0, rfl, h0, by omega, Below.refl _ _⟩
    | true =>
      have hq0 : 0 ≤ k % (8 * (n3 : Int) + 1) := Int.emod_nonneg _ (by omega)
      have hq1 : k % (8 * (n3 : Int) + 1) < 8 * (n3 : Int) + 1 := Int.emod_lt_of_pos _ (by omega)
      obtain ⟨q, hq⟩ := Int.eq_ofNat_of_zero_le hq0
      rw [hq] at hq1
      clear hq0
      go_wp2_with fail
      refine (appuv q _ (by omega)).mono ?_
      rintro e w1 ⟨v, m, zs, rfl, hown, hzs, hm0, hm1, hb1⟩
      have HO : Hid (w1.ownsRow w.heap.size 5 1 v m (zs.map (Value.int .u8))) := hown
      have HZ : Hid (Bytes zs) := hzs
      clear hown hzs hq
      have h3' := h3.below hb1
      have hszb := hb1.size
      cases x3 with
      | none =>
        have hz3 : n3 = 0 ∧ c3 = 0 := by
          rcases h3 with ⟨_, h, h'⟩ | ⟨_, h, _⟩ | ⟨_, _, h, _⟩
          · exact ⟨h, h'⟩
          · cases h
          · cases h
        obtain ⟨rfl, rfl⟩ := hz3
        obtain ⟨x', c', hv, hB'⟩ := isB_of_owns HO.out HZ.out
        have HB' : Hid (IsB w1 x' m c' (fun i => zs.getD i 0)) := hB'
        clear hB' h3'
        go_wp2_with (at_builtin; refine wpList_append_own_none rfl (.tmp 43) (.tmp 44) 22 rfl w.heap.size 5 i0 1 Yba.underlying22 hi _ m (zs.map (Value.int .u8)) rfl (by rw [← hv]; exact HO.out) rfl ?_)
        go_meet
        exact ⟨x', m, c', _, rfl, HB'.out, by omega, hb1⟩
      | some ad =>
        have H3 : Hid (IsB w1 (some ad) n3 c3 r3) := h3'
        clear h3'
        go_wp2_with (at_builtin; refine wpList_append_own _ rfl (.tmp 43) (.tmp 44) 22 rfl w.heap.size 5 i0 (.int .u8 0) 1 1 Yba.underlying22 hi hz0 hz1 hz2 rfl (by decide) v m (zs.map (Value.int .u8)) rfl HO.out ad n3 c3 (((List.range n3).map r3).map (Value.int .u8)) rfl (by simp) (isB_cells H3.out) (ints_oneCell .u8 _) (by unfold maxLen; omega) (by omega) hszb ?_)
        intro v' w2 hown' hgrow hnn
        have R1 : w2.ownsRow w.heap.size 5 1 v' (m + n3) ((zs ++ (List.range n3).map r3).map (Value.int .u8)) := by rw [List.map_append, List.map_map]; exact hown'
        have R2 : Below w.heap.size w w2 := hb1.grown hgrow hszb (fun r hr => (HO.out.lt r hr).1)
        have R3 : Bytes (zs ++ (List.range n3).map r3) := by
          intro z hz
          rcases List.mem_append.1 hz with h | h
          · exact HZ.out z h
          · exact isB_list H3.out z h
        obtain ⟨x', c', hv, hB'⟩ := isB_of_owns R1 R3
        have HB' : Hid (IsB w2 x' (m + n3) c' (fun i => (zs ++ (List.range n3).map r3).getD i 0)) := hB'
        rw [hv]
        clear hown' hgrow hnn R1 R3 hB' hv
        go_wp2_with fail
        go_meet
        exact ⟨x', m + n3, c', _, rfl, HB'.out, by omega, R2⟩
  case rest =>
  obtain ⟨x, N, c, bs, rfl, hB, hN, hb1⟩ := hcut
  obtain ⟨w1, rfl⟩ : ∃ w1 : World, w1 = wc := ⟨_, rfl⟩
  clear h0 h3 hn0 hn3 hn0' hn3'
  have hnn := fun (w : World) => run_neq_slice_nil_any (P := Yba.prog) w 22 5 x N c 0 0 Yba.underlying22
  go_upto_if 48 with fail
  go_cut [12] from 49 to 51 (fun t wc => ∃ y cy, t = .slice y N cy ∧ IsB wc y N cy bs ∧ Below w1.heap.size w1 wc)
  case first =>
    cases x with
    | none =>
      have hz3 : N = 0 ∧ c = 0 := by
        rcases hB with ⟨_, h, h'⟩ | ⟨_, h, _⟩ | ⟨_, _, h, _⟩
        · exact ⟨h, h'⟩
        · cases h
        · cases h
      obtain ⟨rfl, rfl⟩ := hz3
      go_wp2_with fail
      go_meet
      exact ⟨none, 0, rfl, .inl ⟨rfl, rfl, rfl⟩, Below.refl _ _⟩
    | some ad =>
      have HB : Hid (IsB w1 (some ad) N c bs) := hB
      have hB2 : IsB (w1.alloc (.cells #[] 5)) (some ad) N c bs := hB.below ((Below.refl _ _).alloc (Nat.le_refl _) _)
      have HB2 : Hid (IsB (w1.alloc (.cells #[] 5)) (some ad) N c bs) := hB2
      have hmade := World.ownsRow_made (base := w1.heap.size) (e := 5) (size := 1) w1 #[] 0 (Nat.le_refl _) (Nat.zero_le _) rfl
      have HM : Hid ((w1.alloc (.cells #[] 5)).ownsRow w1.heap.size 5 1 (.slice (some ⟨w1.heap.size, 0, none⟩) 0 0) 0 []) := hmade
      clear hB hB2 hmade
      go_wp2_with (at_builtin; refine wpList_append_own _ rfl (.tmp 49) (.tmp 50) 22 rfl w1.heap.size 5 i0 (.int .u8 0) 1 1 Yba.underlying22 hi hz0 hz1 hz2 rfl (by decide) _ 0 [] rfl HM.out ad N c (((List.range N).map bs).map (Value.int .u8)) rfl (by simp) (isB_cells HB2.out) (ints_oneCell .u8 _) (by unfold maxLen; omega) (by omega) (by simp) ?_)
      intro v' w2 hown' hgrow hnn'
      have R2 : Below w1.heap.size w1 w2 := ((Below.refl _ _).alloc (Nat.le_refl _) _).grown hgrow (by simp) (fun r hr => (HM.out.lt r hr).1)
      have R1 : w2.ownsRow w1.heap.size 5 1 v' N (((List.range N).map bs).map (Value.int .u8)) := by simpa using hown'
      obtain ⟨x', c', hv, hB'⟩ := isB_of_owns R1 (isB_list HB.out)
      have hB3 : IsB w2 x' N c' bs := isB_congr hB' (fun i hi => by simp [hi])
      have HB3 : Hid (IsB w2 x' N c' bs) := hB3
      rw [hv]
      clear hown' hgrow hnn' R1 hB' hv hB3
      go_wp2_with fail
      go_meet
      exact ⟨x', c', rfl, HB3.out, R2⟩
  case rest =>
  obtain ⟨y, cy, rfl, hY, hb2⟩ := hcut
  obtain ⟨w2, rfl⟩ : ∃ w2 : World, w2 = wc := ⟨_, rfl⟩
  have hX : IsB w2 x N c bs := hB.below hb2
  have hb12 : Below w.heap.size w w2 := hb1.trans (hb2.mono hb1.size)
  clear hB hb1 hb2 hi hz0 hz1 hz2 hnn
  cases preErr with
  | true =>
    go_wp2_with fail
    refine (new_any _ _).mono ?_
    rintro e w3 ⟨rfl, rfl⟩
    go_wp2_with fail
    obtain ⟨pb, hpb⟩ : ∃ pb, pb = w2.heap.size := ⟨_, rfl⟩
    rw [← hpb]
    obtain ⟨W3, hW3⟩ : ∃ W3 : World, W3 = (w2.alloc (Obj.cells #[Value.string { data := #[112, 114, 101, 115, 101, 116] }] 56)).alloc (Obj.cells #[Value.slice x N c, Value.iface 54 (Value.pointer (some ⟨pb, 0, none⟩))] 30) := ⟨_, rfl⟩
    have hb3 : Below w2.heap.size w2 W3 := by rw [hW3]; exact ((Below.refl _ _).alloc (Nat.le_refl _) _).alloc (by simp) _
    have hD : W3.heap[pb + 1]? = some (.cells #[.slice x N c, .iface 54 (.pointer (some ⟨pb, 0, none⟩))] 30 (0, 0)) := by
      rw [hW3, hpb]
      have h := heap_alloc_new (w2.alloc (Obj.cells #[Value.string { data := #[112, 114, 101, 115, 101, 116] }] 56)) (Obj.cells #[Value.slice x N c, Value.iface 54 (Value.pointer (some ⟨w2.heap.size, 0, none⟩))] 30)
      rw [World.size_alloc] at h
      exact h
    have hX3 := hX.below hb3
    have hY3 := hY.below hb3
    have hb13 : Below w.heap.size w W3 := hb12.trans (hb3.mono hb12.size)
    have hwp : w.heap.size ≤ pb := by rw [hpb]; exact hb12.size
    rw [← hW3]
    clear hX hY hb12 hb3 hW3 hpb
    cases hU : uv bs N with
    | none =>
      have HU : Hid (uv bs N = none) := hU
      clear hU
      refine (res_set_none (pb + 1) x N c bs _ _ W3 hN hX3 HU.out hD).mono ?_
      rintro e w' ⟨rfl, rfl⟩
      obtain ⟨e0, e1, f0, f1, hlt⟩ := cells2 hD
      clear hD
      go_wp2_with fail
      refine (equal_any x y N c cy bs _ hX3 hY3).mono ?_
      rintro e w' ⟨rfl, rfl⟩
      go_wp2_with fail
      refine (auv_any x N c bs _ hN hX3).mono ?_
      rintro e w' ⟨rfl, rfl⟩
      rw [HU.out]
      simp only [auvRes]
      have hgn := fun (w : World) => run_neq_slice_nil_any (P := Yba.prog) w 31 4 none 0 0 0 0 Yba.underlying31
      have hxn := fun (w : World) => Lib.run_eql_slice_nil (P := Yba.prog) w 22 5 x N c 0 0 Yba.underlying22
      have hpre := fun (w : World) => run_neq_err w ⟨pb, 0, none⟩
      go_wp2_with fail
      refine (equal_any x x N c c bs _ hX3 hX3).mono ?_
      rintro e w' ⟨rfl, rfl⟩
      go_wp2_with fail
      go_ret
      exact ⟨rfl, hb13⟩
    | some p =>
      obtain ⟨u, wd⟩ := p
      have HU : Hid (uv bs N = some (u, wd)) := hU
      clear hU
      refine (res_set_some (pb + 1) x N c bs _ _ u wd W3 hN hX3 HU.out hD).mono ?_
      rintro e w4 ⟨rfl, hD4, hg4⟩
      have hX4 := hX3.grown hD (by simp) hg4
      have hY4 := hY3.grown hD (by simp) hg4
      have hb14 : Below w.heap.size w w4 := hb13.grown hg4 hb13.size (by intro r hr; simp at hr; omega)
      have hbd := uv_bd HU.out
      obtain ⟨_, _, hw0, hwn⟩ := hbd
      have hT4 := tl_is hX4 hwn
      obtain ⟨e0, e1, f0, f1, hlt⟩ := cells2 hD4
      clear hD4 hX3 hY3 hg4 hD hb13
      go_wp2_with fail
      refine (equal_any x y N c cy bs _ hX4 hY4).mono ?_
      rintro e w' ⟨rfl, rfl⟩
      go_wp2_with fail
      refine (auv_any x N c bs _ hN hX4).mono ?_
      rintro e w' ⟨rfl, rfl⟩
      rw [HU.out]
      simp only [auvRes]
      have hgn := fun (w : World) => run_neq_slice_nil_any (P := Yba.prog) w 31 4 none 0 0 0 0 Yba.underlying31
      have hpre := fun (w : World) => run_neq_err w ⟨pb, 0, none⟩
      have hX5 := hX4
      rcases hX5 with ⟨_, h, _⟩ | ⟨_, _, h⟩ | ⟨b, o, rfl, hpos, hnc, hltb, _⟩
      · omega
      · omega
      have htn := fun (w : World) => run_neq_slice_nil_any (P := Yba.prog) w 22 5 (tl (some ⟨b, o, none⟩) c wd) (N - wd) (c - wd) 0 0 Yba.underlying22
      have i1 : (wd : Int) ≤ (N : Int) := by omega
      have i2 : (0 : Int) < (wd : Int) := by omega
      have i3 : (N : Int) ≤ (c : Int) := by omega
      have htl : (tl (some ⟨b, o, none⟩) c wd).isNone = false := rfl
      simp only [htl] at htn
      go_wp2_with fail
      by_cases hcw : c = wd
      · subst hcw
        have hT5 : IsB w' (some ⟨b, o, none⟩) 0 0 bs := .inr (.inl ⟨_, rfl, rfl⟩)
        have hT6 : IsB w' (tl (some ⟨b, o, none⟩) c c) 0 0 bs := .inr (.inl ⟨_, rfl, rfl⟩)
        clear hT4
        go_quiet ((go_at_call 8; exact Calls.quiet_of_same (equal_any _ _ 0 _ _ bs _ hT6 hT5)))
        go_wp2_with fail
        go_ret
        exact ⟨rfl, below_drewN hb14 _⟩
      · have hT5 : IsB w' (some ⟨b, o + wd, none⟩) (N - wd) (c - wd) (fun i => bs (i + wd)) := by
          have h := hT4
          simp only [tl, Option.map_some, if_neg hcw] at h
          exact h
        go_quiet ((go_at_call 8; exact Calls.quiet_of_same (equal_any _ _ (N - wd) _ _ (fun i => bs (i + wd)) _ hT4 hT5)))
        go_wp2_with fail
        go_ret
        exact ⟨rfl, below_drewN hb14 _⟩
  | false =>
    go_wp2_with fail
    obtain ⟨pb, hpb⟩ : ∃ pb, pb = w2.heap.size := ⟨_, rfl⟩
    rw [← hpb]
    obtain ⟨W3, hW3⟩ : ∃ W3 : World, W3 = w2.alloc (Obj.cells #[Value.slice x N c, Value.nilIface] 30) := ⟨_, rfl⟩
    have hb3 : Below w2.heap.size w2 W3 := by rw [hW3]; exact (Below.refl _ _).alloc (Nat.le_refl _) _
    have hD : W3.heap[pb]? = some (.cells #[.slice x N c, .nilIface] 30 (0, 0)) := by
      rw [hW3, hpb]
      exact heap_alloc_new w2 _
    have hX3 := hX.below hb3
    have hY3 := hY.below hb3
    have hb13 : Below w.heap.size w W3 := hb12.trans (hb3.mono hb12.size)
    have hwp : w.heap.size ≤ pb := by rw [hpb]; exact hb12.size
    rw [← hW3]
    clear hX hY hb12 hb3 hW3 hpb
    have hgn := fun (w : World) => Lib.run_eql_slice_nil (P := Yba.prog) w 31 4 none 0 0 0 0 Yba.underlying31
    have hbn := fun (w : World) => Lib.run_eql_slice_nil (P := Yba.prog) w 22 5 none 0 0 0 0 Yba.underlying22
    cases hU : uv bs N with
    | none =>
      have HU : Hid (uv bs N = none) := hU
      clear hU
      refine (res_nil_none pb x N c bs W3 hN hX3 HU.out hD).mono ?_
      rintro e w4 ⟨rfl, ⟨q, hD4⟩, hg4⟩
      have hX4 := hX3.grown hD (by simp) hg4
      have hY4 := hY3.grown hD (by simp) hg4
      have hb14 : Below w.heap.size w w4 := hb13.grown hg4 hb13.size (by intro r hr; simp at hr; omega)
      obtain ⟨e0, e1, f0, f1, hlt⟩ := cells2 hD4
      clear hD4 hX3 hY3 hg4 hD hb13
      go_wp2_with fail
      refine (equal_any x y N c cy bs _ hX4 hY4).mono ?_
      rintro e w' ⟨rfl, rfl⟩
      go_wp2_with fail
      refine (auv_any x N c bs _ hN hX4).mono ?_
      rintro e w' ⟨rfl, rfl⟩
      rw [HU.out]
      simp only [auvRes]
      go_wp2_with fail
      go_ret
      exact ⟨rfl, hb14⟩
    | some p =>
      obtain ⟨u, wd⟩ := p
      have HU : Hid (uv bs N = some (u, wd)) := hU
      clear hU
      have hbd := uv_bd HU.out
      obtain ⟨hu0, hu1, hw0, hwn⟩ := hbd
      have hX5 := hX3
      rcases hX5 with ⟨_, h, _⟩ | ⟨_, _, h⟩ | ⟨b, o, rfl, hpos, hnc, hltb, _⟩
      · omega
      · omega
      have i1 : (wd : Int) ≤ (N : Int) := by omega
      have i2 : (0 : Int) < (wd : Int) := by omega
      have i3 : (N : Int) ≤ (c : Int) := by omega
      by_cases hover : 8 * ((N - wd : Nat) : Int) < u
      · refine (res_nil_over pb _ N c bs u wd W3 hN hX3 HU.out hover hD).mono ?_
        rintro e w4 ⟨rfl, ⟨q, hD4⟩, hg4⟩
        have hX4 := hX3.grown hD (by simp) hg4
        have hY4 := hY3.grown hD (by simp) hg4
        have hb14 : Below w.heap.size w w4 := hb13.grown hg4 hb13.size (by intro r hr; simp at hr; omega)
        obtain ⟨e0, e1, f0, f1, hlt⟩ := cells2 hD4
        clear hD4 hX3 hY3 hg4 hD hb13
        go_wp2_with fail
        refine (equal_any _ y N c cy bs _ hX4 hY4).mono ?_
        rintro e w' ⟨rfl, rfl⟩
        go_wp2_with fail
        refine (auv_any _ N c bs _ hN hX4).mono ?_
        rintro e w' ⟨rfl, rfl⟩
        rw [HU.out]
        simp only [auvRes]
        by_cases hcw : c = wd
        · subst hcw
          go_wp2_with fail
          go_ret
          exact ⟨rfl, hb14⟩
        · go_wp2_with fail
          go_ret
          exact ⟨rfl, hb14⟩
      · obtain ⟨un, rfl⟩ := Int.eq_ofNat_of_zero_le hu0
        have hun : un ≤ 8 * (N - wd) := by omega
        refine (res_nil_ok pb _ N c bs un wd W3 hN hX3 HU.out hun hD).mono ?_
        rintro e w4 ⟨v, rfl, hown, hvn, hD4, hg4⟩
        have hX4 := hX3.grown hD (by simp) hg4
        have hY4 := hY3.grown hD (by simp) hg4
        have hb14 : Below w.heap.size w w4 := hb13.grown hg4 hb13.size (by intro r hr; simp at hr; omega)
        obtain ⟨e0, e1, f0, f1, hlt⟩ := cells2 hD4
        have hT4 := tl_is hX4 hwn
        have hR4 := tl_is hT4 (show (un + 7) / 8 ≤ N - wd by omega)
        have HOWN : Hid (w4.ownsRow W3.heap.size 4 1 v un ((List.range un).map fun i => .bool (bitR (bs (i / 8 + wd)) (i % 8)))) := hown
        clear hD4 hX3 hY3 hg4 hD hb13 hown
        by_cases hNw : N = wd
        · have hun0 : un = 0 := by omega
          subst hun0
          have hv := hvn rfl
          subst hv
          obtain ⟨ad, had⟩ : ∃ ad, tl (tl (some ⟨b, o, none⟩) c wd) (c - wd) ((0 + 7) / 8) = some ad := ⟨_, rfl⟩
          obtain ⟨C, hC⟩ : ∃ C, c - wd - (0 + 7) / 8 = C := ⟨_, rfl⟩
          rw [had, hC, show N - wd - (0 + 7) / 8 = 0 by omega] at e0
          have hgn2 := fun (w : World) => run_neq_slice_nil_any (P := Yba.prog) w 31 4 none 0 0 0 0 Yba.underlying31
          have hnl := fun (w : World) => run_neq_slice_nil_any (P := Yba.prog) w 22 5 (some ad) 0 C 0 0 Yba.underlying22
          clear hover hgn hbn hR4 hT4 HOWN hvn had hC hun
          subst hNw
          have hA : IsB w4 (some ad) 0 C bs := .inr (.inl ⟨_, rfl, rfl⟩)
          go_wp2_with fail
          refine (equal_any _ y N c cy bs _ hX4 hY4).mono ?_
          rintro e w' ⟨rfl, rfl⟩
          go_wp2_with fail
          refine (auv_any _ N c bs _ hN hX4).mono ?_
          rintro e w' ⟨rfl, rfl⟩
          rw [HU.out]
          simp only [auvRes]
          by_cases hcw : c = N
          · subst hcw
            have hA2 : IsB w' (some ⟨b, o, none⟩) 0 0 bs := .inr (.inl ⟨_, rfl, rfl⟩)
            go_wp2_with fail
            refine wp_loop_rounds 1 ?_
            rw [rounds_succ]
            go_wp2_with fail
            go_quiet ((go_at_call 8; exact Calls.quiet_of_same (equal_any _ _ 0 _ _ bs _ hA hA2)))
            go_wp2_with fail
            go_ret
            exact ⟨rfl, below_drewN hb14 _⟩
          · have hA2 : IsB w' (some ⟨b, o + N, none⟩) 0 (c - N) bs := .inr (.inl ⟨_, rfl, rfl⟩)
            have hcn : ¬ c - N = 0 := by omega
            go_wp2_with fail
            refine wp_loop_rounds 1 ?_
            rw [rounds_succ]
            go_wp2_with fail
            go_quiet ((go_at_call 8; exact Calls.quiet_of_same (equal_any _ _ 0 _ _ bs _ hA hA2)))
            go_wp2_with fail
            go_ret
            exact ⟨rfl, below_drewN hb14 _⟩
        · have hcw : ¬ c = wd := by omega
          have hT5 : IsB w4 (some ⟨b, o + wd, none⟩) (N - wd) (c - wd) (fun i => bs (i + wd)) := by
            have h := hT4
            simp only [tl, Option.map_some, if_neg hcw] at h
            exact h
          obtain ⟨n', hn'⟩ : ∃ n', n' = N - wd := ⟨_, rfl⟩
          obtain ⟨c', hc'⟩ : ∃ c', c' = c - wd := ⟨_, rfl⟩
          have htl : tl (some ⟨b, o, none⟩) c wd = some ⟨b, o + wd, none⟩ := by simp [tl, hcw]
          rw [htl] at hT4 hR4 e0
          rw [← hn', ← hc'] at hT4 hT5 hR4 e0
          have hn1 : 0 < n' := by omega
          have hn2 : n' ≤ c' := by omega
          have hn3 : n' ≤ 1073741824 := by omega
          have hun' : un ≤ 8 * n' := by omega
          rcases hT5 with ⟨h, _⟩ | ⟨_, _, h⟩ | ⟨b2, o2, h, _, _, hltb4, hcell⟩
          · cases h
          · omega
          simp at h
          obtain ⟨rfl, rfl⟩ := h
          by_cases hun0 : un = 0
          · subst hun0
            have hv := hvn rfl
            subst hv
            have e0' : w4.cell? ⟨pb, 0, none⟩ = some (.slice (tl (some ⟨b, o + wd, none⟩) c' 0) n' c') := by simpa using e0
            have hR5 : IsB w4 (tl (some ⟨b, o + wd, none⟩) c' 0) n' c' (fun i => bs (i + wd)) := by simpa using hR4
            have hgn2 := fun (w : World) => run_neq_slice_nil_any (P := Yba.prog) w 31 4 none 0 0 0 0 Yba.underlying31
            have hnl := fun (w : World) => run_neq_slice_nil_any (P := Yba.prog) w 22 5 (tl (some ⟨b, o + wd, none⟩) c' 0) n' c' 0 0 Yba.underlying22
            have htl2 : (tl (some ⟨b, o + wd, none⟩) c' 0).isNone = false := rfl
            simp only [htl2] at hnl
            have hnn' : N - wd = n' := hn'.symm
            have hcc' : c - wd = c' := hc'.symm
            clear hn' hc' hover hgn hbn e0 hR4 HOWN hvn htl2
            have hover' : ¬ (8 * (n' : Int) < ((0 : Nat) : Int)) := by omega
            go_wp2_with fail
            refine (equal_any _ y N c cy bs _ hX4 hY4).mono ?_
            rintro e w' ⟨rfl, rfl⟩
            go_wp2_with fail
            refine (auv_any _ N c bs _ hN hX4).mono ?_
            rintro e w' ⟨rfl, rfl⟩
            rw [HU.out]
            simp only [auvRes]
            go_wp2_with fail
            clear hover' hnn' hcc'
            go_loop [20, 174] (fun d i => ∃ t : Nat, t ≤ n' ∧ i = .int .i64 t ∧ d = .int .i64 0) (fun _ i => n' - (intOf i).toNat)
            case atStart => exact ⟨0, Nat.zero_le _, rfl, rfl⟩
            case round =>
              obtain ⟨t, ht, rfl, rfl⟩ := hrel
              by_cases htn : t < n'
              · obtain ⟨hct, hq0, hq1⟩ := hcell t htn
                have htn' : (t : Int) < (n' : Int) := by omega
                go_wp2_with fail
                go_loop [20, 23] (fun d i => i = .int .i64 0 ∧ d = .int .i64 0) (fun _ _ => 0)
                case atStart => exact ⟨rfl, rfl⟩
                case round =>
                  obtain ⟨rfl, rfl⟩ := hrel
                  go_wp2_with fail
                  go_round
                  case rel => exact ⟨_, _, _, _, _, _, ⟨t + 1, by omega, rfl, rfl⟩, rfl, rfl, rfl, rfl, rfl, by go_num⟩
                  case measure => simp [intOf]; omega
              · clear hcell
                have htn' : ¬ ((t : Int) < (n' : Int)) := by omega
                have hn2' : (n' : Int) ≤ (c' : Int) := by omega
                have hc0 : ¬ c' = 0 := by omega
                go_wp2_with fail
                go_quiet ((go_at_call 8; exact Calls.quiet_of_same (equal_any _ _ n' _ _ (fun i => bs (i + wd)) _ hR5 hT4)))
                go_wp2_with fail
                go_ret
                exact ⟨rfl, below_drewN hb14 _⟩
          · obtain ⟨g, cap, rfl, hgc, hglt⟩ : ∃ g cap, v = .slice (some ⟨g, 0, none⟩) un cap ∧ (∀ i, i < un → w4.cell? ⟨g, i, none⟩ = some (.bool (bitR (bs (i / 8 + wd)) (i % 8)))) ∧ g < w4.heap.size := by
              rcases HOWN.out.2 with ⟨_, h⟩ | ⟨g, cap, cur, rfl, hb, hg, _⟩
              · omega
              · refine ⟨g, cap, rfl, fun i hi => ?_, (Array.getElem?_eq_some_iff.1 hg).1⟩
                have := HOWN.out.cells (g := g) rfl i (.bool (bitR (bs (i / 8 + wd)) (i % 8))) (by simp [hi])
                simpa [Addr.add_lit] using this
            clear HOWN hvn
            have hu0' : ((un : Int) == 0) = false := by simp; omega
            have HN : Hid (n' = N - wd) := hn'
            have HC : Hid (c' = c - wd) := hc'
            have hnn' : N - wd = n' := hn'.symm
            have hcc' : c - wd = c' := hc'.symm
            clear hn' hc' hover hgn hbn
            have hover' : ¬ (8 * (n' : Int) < (un : Int)) := by omega
            go_wp2_with fail
            refine (equal_any _ y N c cy bs _ hX4 hY4).mono ?_
            rintro e w' ⟨rfl, rfl⟩
            go_wp2_with fail
            refine (auv_any _ N c bs _ hN hX4).mono ?_
            rintro e w' ⟨rfl, rfl⟩
            rw [HU.out]
            simp only [auvRes]
            go_wp2_with fail
            clear hover' hnn' hcc'
            go_loop [20, 174] (fun d i => ∃ t dd : Nat, t ≤ n' ∧ i = .int .i64 t ∧ d = .int .i64 dd ∧ dd ≤ un ∧ dd ≤ 8 * t ∧ (dd = 8 * t ∨ dd = un)) (fun _ i => n' - (intOf i).toNat)
            case atStart => exact ⟨0, 0, Nat.zero_le _, rfl, rfl, Nat.zero_le _, Nat.zero_le _, .inl rfl⟩
            case round =>
              obtain ⟨t, dd, ht, rfl, rfl, hd1, hd2, hd3⟩ := hrel
              have HD3 : Hid (dd = 8 * t ∨ dd = un) := hd3
              clear hd3
              by_cases htn : t < n'
              · obtain ⟨hct, hq0, hq1⟩ := hcell t htn
                have htn' : (t : Int) < (n' : Int) := by omega
                go_wp2_with fail
                go_loop [20, 23] (fun d i => ∃ j dd : Nat, j ≤ 8 ∧ i = .int .i64 j ∧ d = .int .i64 dd ∧ dd ≤ un ∧ dd ≤ 8 * t + j ∧ Hid (dd = 8 * t + j ∨ dd = un)) (fun _ i => 8 - (intOf i).toNat)
                case atStart => exact ⟨0, dd, Nat.zero_le _, rfl, rfl, hd1, by omega, by rcases HD3.out with h | h; exact .inl (by omega); exact .inr h⟩
                case round =>
                  obtain ⟨j, dd', hj, rfl, rfl, hd1', hd2', HD3'⟩ := hrel
                  by_cases hj8 : j < 8
                  · by_cases hdu : dd' < un
                    · have hdd : dd' = 8 * t + j := by rcases HD3'.out with h | h; exact h; omega
                      have hgd := hgc dd' hdu
                      have hdd8 : dd' / 8 = t := by omega
                      have hdm8 : dd' % 8 = j := by omega
                      rw [hdd8, hdm8] at hgd
                      have hdu' : (dd' : Int) < (un : Int) := by omega
                      have HDD : Hid (dd' = 8 * t + j) := hdd
                      clear hdd hdd8 hdm8 HD3'
                      clear hgc hcell
                      rw [bit_eq _ j hq0 hq1 hj8] at hgd
                      generalize bs (t + wd) = q at *
                      go_wp2_with fail
                      go_round
                      case rel => exact ⟨j + 1, dd' + 1, by omega, by go_num, by go_num, by omega, by omega, .inl (by have := HDD.out; omega)⟩
                      case measure => simp [intOf]; omega
                    · have hdu' : (un : Int) ≤ (dd' : Int) := by omega
                      have hdd : dd' = un := by omega
                      go_wp2_with fail
                      go_round
                      case rel => exact ⟨t + 1, dd', by omega, by go_num, rfl, by omega, by omega, .inr hdd⟩
                      case measure => simp [intOf]; omega
                  · have hj' : j = 8 := by omega
                    have hfin : dd' = 8 * (t + 1) ∨ dd' = un := by rcases HD3'.out with h | h; exact .inl (by omega); exact .inr h
                    have HFIN : Hid (dd' = 8 * (t + 1) ∨ dd' = un) := hfin
                    subst hj'
                    clear hfin HD3'
                    go_wp2_with fail
                    go_round
                    case rel => exact ⟨t + 1, dd', by omega, by go_num, rfl, by omega, by omega, HFIN.out⟩
                    case measure => simp [intOf]; omega
              · clear hcell hgc
                obtain ⟨k7, e7⟩ : ∃ k7, k7 = (un + 7) / 8 := ⟨_, rfl⟩
                rw [← e7] at e0 hR4
                have hk7 : k7 ≤ n' := by omega
                have hk7' : (k7 : Int) ≤ (n' : Int) := by omega
                have hn2' : (n' : Int) ≤ (c' : Int) := by omega
                have htn' : ¬ ((t : Int) < (n' : Int)) := by omega
                have hnl := fun (w : World) => run_neq_slice_nil_any (P := Yba.prog) w 22 5 (tl (some ⟨b, o + wd, none⟩) c' k7) (n' - k7) (c' - k7) 0 0 Yba.underlying22
                have htl2 : (tl (some ⟨b, o + wd, none⟩) c' k7).isNone = false := rfl
                simp only [htl2] at hnl
                have hmod : ((un : Int) % 8 = 0 ∧ (un : Int) / 8 = (k7 : Int)) ∨ (¬ ((un : Int) % 8 = 0) ∧ (un : Int) / 8 + 1 = (k7 : Int)) := by omega
                clear e7
                rcases hmod with ⟨hm, ek⟩ | ⟨hm, ek⟩
                all_goals
                  by_cases hck : c' = k7
                  · subst hck
                    have hT5 : IsB w' (some ⟨b, o + wd, none⟩) 0 0 bs := .inr (.inl ⟨_, rfl, rfl⟩)
                    have hT6 : IsB w' (tl (some ⟨b, o + wd, none⟩) c' c') 0 0 bs := .inr (.inl ⟨_, rfl, rfl⟩)
                    clear hT4 hR4
                    go_wp2_with fail
                    go_quiet ((go_at_call 8; exact Calls.quiet_of_same (equal_any _ _ 0 _ _ bs _ hT6 hT5)))
                    go_wp2_with fail
                    go_ret
                    exact ⟨rfl, below_drewN hb14 _⟩
                  · have hT5 : IsB w' (some ⟨b, o + wd + k7, none⟩) (n' - k7) (c' - k7) (fun i => bs (i + k7 + wd)) := by
                      have h := hR4
                      simp only [tl, Option.map_some, if_neg hck] at h
                      exact h
                    go_wp2_with fail
                    go_quiet ((go_at_call 8; exact Calls.quiet_of_same (equal_any _ _ (n' - k7) _ _ (fun i => bs (i + k7 + wd)) _ hR4 hT5)))
                    go_wp2_with fail
                    go_ret
                    exact ⟨rfl, below_drewN hb14 _⟩

set_option maxRecDepth 100000 in
set_option maxHeartbeats 400000 in
theorem law_big1 (x0 x3 : Option Addr) (n0 c0 n3 c3 : Nat) (build preErr : Bool) (k : Int) (w : World) (hn0 : 1048576 < n0) :
    Calls Yba.prog 3 #[.slice x0 n0 c0, .bool build, .int .u64 k, .slice x3 n3 c3, .bool preErr] w fun e w' => e = .returned (.bool true) ∧ Below w.heap.size w w' := by
  have hn0' : (1048576 : Int) < (n0 : Int) := by omega
  go_enter Yba.func3, Yba.ntmps3
  go_wp2_with fail
  go_ret
  exact ⟨rfl, Below.refl _ _⟩
set_option maxRecDepth 100000 in
set_option maxHeartbeats 400000 in
theorem law_big2 (x0 x3 : Option Addr) (n0 c0 n3 c3 : Nat) (build preErr : Bool) (k : Int) (w : World) (hn0 : n0 ≤ 1048576) (hn3 : 1048576 < n3) :
    Calls Yba.prog 3 #[.slice x0 n0 c0, .bool build, .int .u64 k, .slice x3 n3 c3, .bool preErr] w fun e w' => e = .returned (.bool true) ∧ Below w.heap.size w w' := by
  have hn0' : ¬ (1048576 : Int) < (n0 : Int) := by omega
  have hn3' : (1048576 : Int) < (n3 : Int) := by omega
  go_enter Yba.func3, Yba.ntmps3
  go_wp2_with fail
  go_ret
  exact ⟨rfl, Below.refl _ _⟩
theorem law_any (x0 x3 : Option Addr) (n0 c0 n3 c3 : Nat) (r0 r3 : Nat → Int) (build preErr : Bool) (k : Int) (w : World) (h0 : IsB w x0 n0 c0 r0) (h3 : IsB w x3 n3 c3 r3) (hk : 0 ≤ k ∧ k ≤ 18446744073709551615) :
    Calls Yba.prog 3 #[.slice x0 n0 c0, .bool build, .int .u64 k, .slice x3 n3 c3, .bool preErr] w fun e w' => e = .returned (.bool true) ∧ Below w.heap.size w w' := by
  by_cases h1 : 1048576 < n0
  · exact law_big1 x0 x3 n0 c0 n3 c3 build preErr k w h1
  · by_cases h2 : 1048576 < n3
    · exact law_big2 x0 x3 n0 c0 n3 c3 build preErr k w (by omega) h2
    · exact law_small x0 x3 n0 c0 n3 c3 r0 r3 build preErr k w h0 h3 hk.1 hk.2 (by omega) (by omega)
end Go.Proofs.Ybulkdxow
