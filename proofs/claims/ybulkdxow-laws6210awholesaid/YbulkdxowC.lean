import Derived.Test.YbulkdxowB
namespace Go.Proofs.Ybulkdxow
open Go.RowKit

theorem Yba.info4 : (Yba.prog.info? 4).map (fun i => (i.zero, i.size, i.bytes)) = some (some (.bool false), 1, 1) := by kernel_rfl
theorem Yba.info5 : (Yba.prog.info? 5).map (fun i => (i.zero, i.size, i.bytes)) = some (some (.int .u8 0), 1, 1) := by kernel_rfl

set_option maxHeartbeats 400000 in
theorem res_set_none (db : Nat) (x : Option Addr) (n c : Nat) (bs : Nat → Int) (t : TypeId) (v : Value) (w : World) (hn : n ≤ 1073741824) (hB : IsB w x n c bs) (hU : uv bs n = none) (h : w.heap[db]? = some (.cells #[.slice x n c, .iface t v] 30 (0, 0))) :
    Calls Yba.prog 7 #[.pointer (some ⟨db, 0, none⟩)] w fun e w' => e = .returned (.slice none 0 0) ∧ w' = w := by
  obtain ⟨c0, c1, f0, f1, hlt⟩ := cells2 h
  have HH : Hid (w.heap[db]? = some (.cells #[.slice x n c, .iface t v] 30 (0, 0))) := h
  have HU : Hid (uv bs n = none) := hU
  clear h hU
  go_enter Yba.func7, Yba.ntmps7
  go_wp2_with fail
  refine (duv_none_set db x n c bs t v _ hn hB HU.out HH.out).mono ?_
  rintro e w' ⟨rfl, rfl⟩
  go_wp2_with fail
  refine (fail_set db (.slice x n c) t v _ _ HH.out).mono ?_
  rintro e w' ⟨rfl, rfl⟩
  go_wp2_with fail
  go_ret
  exact ⟨rfl, rfl⟩
set_option maxHeartbeats 400000 in
theorem res_set_some (db : Nat) (x : Option Addr) (n c : Nat) (bs : Nat → Int) (t : TypeId) (v : Value) (u : Int) (wd : Nat) (w : World) (hn : n ≤ 1073741824) (hB : IsB w x n c bs) (hU : uv bs n = some (u, wd)) (h : w.heap[db]? = some (.cells #[.slice x n c, .iface t v] 30 (0, 0))) :
    Calls Yba.prog 7 #[.pointer (some ⟨db, 0, none⟩)] w fun e w' => e = .returned (.slice none 0 0) ∧ w'.heap[db]? = some (.cells #[.slice (tl x c wd) (n - wd) (c - wd), .iface t v] 30 (0, 0)) ∧ w.grownBy w' (some db) := by
  have HH : Hid (w.heap[db]? = some (.cells #[.slice x n c, .iface t v] 30 (0, 0))) := h
  have HU : Hid (uv bs n = some (u, wd)) := hU
  clear h hU
  go_enter Yba.func7, Yba.ntmps7
  go_wp2_with fail
  refine (duv_some db x n c bs _ u wd _ hn hB HU.out HH.out).mono ?_
  rintro e w1 ⟨rfl, hb1, hg1⟩
  obtain ⟨c0, c1, f0, f1, hlt⟩ := cells2 hb1
  have HB1 : Hid (w1.heap[db]? = some (.cells #[.slice (tl x c wd) (n - wd) (c - wd), .iface t v] 30 (0, 0))) := hb1
  clear hb1
  go_wp2_with fail
  refine (fail_set db (.slice (tl x c wd) (n - wd) (c - wd)) t v _ _ HB1.out).mono ?_
  rintro e w' ⟨rfl, rfl⟩
  go_wp2_with fail
  go_ret
  exact ⟨rfl, HB1.out, hg1⟩
set_option maxHeartbeats 400000 in
theorem res_nil_none (db : Nat) (x : Option Addr) (n c : Nat) (bs : Nat → Int) (w : World) (hn : n ≤ 1073741824) (hB : IsB w x n c bs) (hU : uv bs n = none) (h : w.heap[db]? = some (.cells #[.slice x n c, .nilIface] 30 (0, 0))) :
    Calls Yba.prog 7 #[.pointer (some ⟨db, 0, none⟩)] w fun e w' => e = .returned (.slice none 0 0) ∧ (∃ q, w'.heap[db]? = some (.cells #[.slice none 0 0, .iface 54 (.pointer (some q))] 30 (0, 0))) ∧ w.grownBy w' (some db) := by
  have HH : Hid (w.heap[db]? = some (.cells #[.slice x n c, .nilIface] 30 (0, 0))) := h
  have HU : Hid (uv bs n = none) := hU
  clear h hU
  go_enter Yba.func7, Yba.ntmps7
  go_wp2_with fail
  refine (duv_none_nil db x n c bs _ hn hB HU.out HH.out).mono ?_
  rintro e w1 ⟨rfl, ⟨q, hb1⟩, hg1⟩
  obtain ⟨c0, c1, f0, f1, hlt⟩ := cells2 hb1
  have HB1 : Hid (w1.heap[db]? = some (.cells #[.slice none 0 0, .iface 54 (.pointer (some q))] 30 (0, 0))) := hb1
  clear hb1
  go_wp2_with fail
  refine (fail_set db (.slice none 0 0) _ _ _ _ HB1.out).mono ?_
  rintro e w' ⟨rfl, rfl⟩
  go_wp2_with fail
  go_ret
  exact ⟨rfl, ⟨q, HB1.out⟩, hg1⟩
set_option maxHeartbeats 400000 in
theorem res_nil_over (db : Nat) (x : Option Addr) (n c : Nat) (bs : Nat → Int) (u : Int) (wd : Nat) (w : World) (hn : n ≤ 1073741824) (hB : IsB w x n c bs) (hU : uv bs n = some (u, wd)) (hu : 8 * ((n - wd : Nat) : Int) < u) (h : w.heap[db]? = some (.cells #[.slice x n c, .nilIface] 30 (0, 0))) :
    Calls Yba.prog 7 #[.pointer (some ⟨db, 0, none⟩)] w fun e w' => e = .returned (.slice none 0 0) ∧ (∃ q, w'.heap[db]? = some (.cells #[.slice none 0 0, .iface 54 (.pointer (some q))] 30 (0, 0))) ∧ w.grownBy w' (some db) := by
  have HH : Hid (w.heap[db]? = some (.cells #[.slice x n c, .nilIface] 30 (0, 0))) := h
  have HU : Hid (uv bs n = some (u, wd)) := hU
  have hbd := uv_bd hU
  obtain ⟨hu0, hu1, hw0, hwn⟩ := hbd
  clear h hU
  go_enter Yba.func7, Yba.ntmps7
  go_wp2_with fail
  refine (duv_some db x n c bs _ u wd _ hn hB HU.out HH.out).mono ?_
  rintro e w1 ⟨rfl, hb1, hg1⟩
  have hn' : n - wd ≤ 1073741824 := by omega
  clear hwn hB HU
  generalize tl x c wd = x' at *
  generalize n - wd = n' at *
  generalize c - wd = c' at *
  obtain ⟨c0, c1, f0, f1, hlt⟩ := cells2 hb1
  have HB1 : Hid (w1.heap[db]? = some (.cells #[.slice x' n' c', .nilIface] 30 (0, 0))) := hb1
  clear hb1
  go_wp2_with fail
  refine (fail_new db x' n' c' _ _ HB1.out).mono ?_
  rintro e w2 ⟨rfl, hb2, hg2⟩
  have HB2 : Hid (w2.heap[db]? = some (.cells #[.slice none 0 0, .iface 54 (.pointer (some ⟨w1.heap.size, 0, none⟩))] 30 (0, 0))) := hb2
  clear hb2
  go_wp2_with fail
  go_ret
  exact ⟨rfl, ⟨_, HB2.out⟩, grown_trans hg1 hg2⟩

/-- the bytes' block is not the decoder's -/
theorem IsB.grown {w w' : World} {x : Option Addr} {n c db : Nat} {bs : Nat → Int} {a : Option Addr} {l k : Nat} {ev : Value} (h : IsB w x n c bs) (hd : w.heap[db]? = some (.cells #[.slice a l k, ev] 30 (0, 0))) (he : ∀ q z, ev ≠ .int q z) (hg : w.grownBy w' (some db)) : IsB w' x n c bs := by
  rcases h with h | h | ⟨b, o, rfl, hn, hnc, hlt, hc⟩
  · exact .inl h
  · exact .inr (.inl h)
  · have hne : b ≠ db := by
      rintro rfl
      have := (hc 0 hn).1
      simp only [World.cell?, hd] at this
      simp at this
      rcases o with _ | _ | o
      · simp at this
      · simp at this
        exact he _ _ this
      · simp at this
    refine .inr (.inr ⟨b, o, rfl, hn, hnc, Nat.lt_of_lt_of_le hlt hg.size, fun i hi => ?_⟩)
    rw [World.cell?_of_block (w := w) (hg.block b hlt (by simpa using hne))]
    exact hc i hi

theorem ownsRow_mono {w : World} {base base' : Nat} {e : TypeId} {size : Nat} {v : Value} {n : Nat} {xs : List Value} (h : w.ownsRow base e size v n xs) (hb : base' ≤ base) : w.ownsRow base' e size v n xs := by
  refine ⟨h.1, ?_⟩
  rcases h.2 with h2 | ⟨g, cap, cur, hv, hg, r⟩
  · exact .inl h2
  · exact .inr ⟨g, cap, cur, hv, Nat.le_trans hb hg, r⟩

/-! ### the way that reads the bits -/
/-- bit j of the byte q, as the decoder reads it -/
def bitR (q : Int) (j : Nat) : Bool := bits BinOp.and IntKind.u8 q (2 ^ j % 256) != 0
set_option maxHeartbeats 800000 in
theorem res_nil_ok (db : Nat) (x : Option Addr) (n c : Nat) (bs : Nat → Int) (u wd : Nat) (w : World) (hn : n ≤ 1073741824) (hB : IsB w x n c bs) (hU : uv bs n = some ((u : Int), wd)) (hu : u ≤ 8 * (n - wd)) (h : w.heap[db]? = some (.cells #[.slice x n c, .nilIface] 30 (0, 0))) :
    Calls Yba.prog 7 #[.pointer (some ⟨db, 0, none⟩)] w fun e w' => ∃ v, e = .returned v ∧ w'.ownsRow w.heap.size 4 1 v u ((List.range u).map fun i => .bool (bitR (bs (i / 8 + wd)) (i % 8))) ∧ (u = 0 → v = .slice none 0 0) ∧
      w'.heap[db]? = some (.cells #[.slice (tl (tl x c wd) (c - wd) ((u + 7) / 8)) (n - wd - (u + 7) / 8) (c - wd - (u + 7) / 8), .nilIface] 30 (0, 0)) ∧ w.grownBy w' (some db) := by
  have HH : Hid (w.heap[db]? = some (.cells #[.slice x n c, .nilIface] 30 (0, 0))) := h
  have HU : Hid (uv bs n = some ((u : Int), wd)) := hU
  have hbd := uv_bd hU
  obtain ⟨hu0, hu1, hw0, hwn⟩ := hbd
  have hdb := (cells2 h).2.2.2.2
  clear h hU hu0
  go_enter Yba.func7, Yba.ntmps7
  go_wp2_with fail
  refine (duv_some db x n c bs _ (u : Int) wd _ hn hB HU.out HH.out).mono ?_
  rintro e w1 ⟨rfl, hb1, hg1⟩
  have hB1 : IsB w1 (tl x c wd) (n - wd) (c - wd) (fun i => bs (i + wd)) := by
    exact tl_is (hB.grown HH.out (by simp) hg1) hwn
  have hx3 : (∃ b o, tl x c wd = some ⟨b, o, none⟩) ∧ n - wd ≤ c - wd := by
    rcases hB with ⟨_, h, _⟩ | ⟨_, _, h⟩ | ⟨b, o, rfl, hpos, hnc, hltb, _⟩
    · omega
    · omega
    · refine ⟨?_, by omega⟩
      simp only [tl, Option.map_some]
      split
      · exact ⟨b, o, rfl⟩
      · exact ⟨b, o + wd, rfl⟩
  obtain ⟨⟨b', o', hx4⟩, hnc'⟩ := hx3
  obtain ⟨x', hx'⟩ : ∃ x', x' = tl x c wd := ⟨_, rfl⟩
  obtain ⟨n', hn'⟩ : ∃ n', n' = n - wd := ⟨_, rfl⟩
  obtain ⟨c', hc'⟩ : ∃ c', c' = c - wd := ⟨_, rfl⟩
  have hnb : n' ≤ 1073741824 := by omega
  have hub : u ≤ 8 * n' := by omega
  rw [← hx', ← hn', ← hc'] at hb1 hB1
  rw [← hx'] at hx4
  rw [← hn', ← hc'] at hnc'
  have HX : Hid (x' = tl x c wd) := hx'
  have HN : Hid (n' = n - wd) := hn'
  have HC : Hid (c' = c - wd) := hc'
  clear hx' hn' hc' hB HU hw0 hwn hn hu
  subst hx4
  obtain ⟨c0, c1, f0, f1, hlt⟩ := cells2 hb1
  have HB1 : Hid (w1.heap[db]? = some (.cells #[.slice (some ⟨b', o', none⟩) n' c', .nilIface] 30 (0, 0))) := hb1
  clear hb1
  have hub' : ¬ (8 * (n' : Int) < (u : Int)) := by omega
  go_wp2_with fail
  obtain ⟨i0, hi, hz0, hz1, hz2⟩ := info_parts Yba.info4
  go_loopw [4, 27] (fun v i wr => ∃ k : Nat, k ≤ u ∧ i = .int .u64 k ∧ wr.ownsRow w1.heap.size 4 1 v k ((List.range k).map fun i => .bool (bitR (bs (i / 8 + wd)) (i % 8))) ∧ Below w1.heap.size w1 wr ∧ (k = 0 → v = .slice none 0 0)) (fun _ i _ => u - (intOf i).toNat)
  case atStart => exact ⟨0, Nat.zero_le _, rfl, World.ownsRow_nil _ _ _ _, Below.refl _ _, fun _ => rfl⟩
  case round =>
    obtain ⟨k, hk, rfl, hown, hbel, hnil⟩ := hrel
    have hszr := hbel.size
    rw [← hbel.cell (p := ⟨db, 0, none⟩) hlt] at c0
    rw [← hbel.cell (p := ⟨db, 1, none⟩) hlt] at c1
    rw [← hbel.frozen (p := ⟨db, 0, none⟩) hlt] at f0
    rw [← hbel.frozen (p := ⟨db, 1, none⟩) hlt] at f1
    have hlt2 : db < wr.heap.size := by omega
    by_cases hku : k < u
    · have hB1' := hB1
      rcases hB1' with ⟨_, h, _⟩ | ⟨_, _, h⟩ | ⟨b, o, hbo, hpos, hnc, hltb, hc⟩
      · omega
      · omega
      simp at hbo
      obtain ⟨rfl, rfl⟩ := hbo
      have hk8 : k / 8 < n' := by omega
      obtain ⟨k8, e8⟩ : ∃ k8, k8 = k / 8 := ⟨_, rfl⟩
      obtain ⟨m8, e9⟩ : ∃ m8, m8 = k % 8 := ⟨_, rfl⟩
      obtain ⟨hq, hq0, hq1⟩ := hc (k / 8) hk8
      rw [← e8] at hq hq0 hq1 hk8
      have E8 : Hid (k8 = k / 8) := e8
      have E9 : Hid (m8 = k % 8) := e9
      rw [← hbel.cell (p := ⟨b', _, none⟩) hltb] at hq
      have hltb2 : b' < wr.heap.size := by omega
      clear hc
      have HNIL : Hid (k = 0 → u4 = .slice none 0 0) := hnil
      clear hnil
      have ek : ((k : Int) / 8) = (k8 : Int) := by omega
      have em : ((k : Int) % 8) = (m8 : Int) := by omega
      have hm8 : m8 < 8 := by omega
      have hk8' : (k8 : Int) < (n' : Int) := by omega
      clear e8 e9
      have HO : Hid (wr.ownsRow w1.heap.size 4 1 u4 k ((List.range k).map fun i => .bool (bitR (bs (i / 8 + wd)) (i % 8)))) := hown
      clear hown
      go_wp2_with (at_builtin; refine wpList_append_own _ rfl (.tmp 30) (.tmp 44) 31 rfl w1.heap.size 4 i0 (.bool false) 1 1 Yba.underlying31 hi hz0 hz1 hz2 rfl (by decide) u4 k ((List.range k).map fun i => .bool (bitR (bs (i / 8 + wd)) (i % 8))) rfl (HO.out.alloc _) ⟨wr.heap.size, 0, none⟩ 1 1 [.bool (bits BinOp.and IntKind.u8 (bs (k8 + wd)) (2 ^ m8 % 256) != 0)] rfl rfl ?c1 ?c2 (by unfold maxLen; omega) (by omega) (by simp; omega) ?_)
      case c2 => rfl
      intro v' w2 hown' hgrow hnn
      have R1 : w2.ownsRow w1.heap.size 4 1 v' (k + 1) ((List.range (k + 1)).map fun i => .bool (bitR (bs (i / 8 + wd)) (i % 8))) := by
        rw [List.range_succ, List.map_append, List.map_singleton, ← E8.out, ← E9.out]
        exact hown'
      have R2 : Below w1.heap.size w1 w2 := (hbel.alloc (by omega) _).grown hgrow (by simp; omega) (fun r hr => (HO.out.lt r hr).1)
      have HR1 : Hid (w2.ownsRow w1.heap.size 4 1 v' (k + 1) ((List.range (k + 1)).map fun i => .bool (bitR (bs (i / 8 + wd)) (i % 8)))) := R1
      clear R1 hown' hgrow hnn HO
      go_wp2_with fail
      go_roundw
      case rel => exact ⟨k + 1, by omega, by go_num, HR1.out, R2, by omega⟩
      case measure => simp [intOf]; omega
    · have hku2 : k = u := by omega
      subst hku2
      have HO : Hid (wr.ownsRow w1.heap.size 4 1 u4 k ((List.range k).map fun i => .bool (bitR (bs (i / 8 + wd)) (i % 8)))) := hown
      have HNIL : Hid (k = 0 → u4 = .slice none 0 0) := hnil
      clear hown hnil
      obtain ⟨k7, e7⟩ : ∃ k7, k7 = (k + 7) / 8 := ⟨_, rfl⟩
      have ek : ((k : Int) + 7) / 8 = (k7 : Int) := by omega
      have hk7 : (k7 : Int) ≤ (n' : Int) := by omega
      have hk7n : k7 ≤ n' := by omega
      have E7 : Hid (k7 = (k + 7) / 8) := e7
      clear e7
      have i3 : (n' : Int) ≤ (c' : Int) := by omega
      have key : ∀ w' : World, (w' = wr.setCell ⟨db, 0, none⟩ (.slice (tl (some ⟨b', o', none⟩) c' k7) (n' - k7) (c' - k7))) → w'.ownsRow w.heap.size 4 1 u4 k ((List.range k).map fun i => .bool (bitR (bs (i / 8 + wd)) (i % 8))) ∧
          w'.heap[db]? = some (.cells #[.slice (tl (tl x c wd) (c - wd) ((k + 7) / 8)) (n - wd - (k + 7) / 8) (c - wd - (k + 7) / 8), .nilIface] 30 (0, 0)) ∧ w.grownBy w' (some db) := by
        rintro w' rfl
        refine ⟨?_, ?_, ?_⟩
        · have h1 := ownsRow_setCell_below HO.out (a := ⟨db, 0, none⟩) hlt (.slice (tl (some ⟨b', o', none⟩) c' k7) (n' - k7) (c' - k7))
          exact ownsRow_mono h1 hg1.size
        · have h1 : wr.heap[db]? = some (.cells #[.slice (some ⟨b', o', none⟩) n' c', .nilIface] 30 (0, 0)) := by rw [hbel.block db hlt]; exact HB1.out
          rw [heap_setCell h1, ← HX.out, ← HN.out, ← HC.out, ← E7.out]
          rfl
        · exact grown_trans hg1 (grown_trans (grown_of_below _ hbel) (grown_setCell wr ⟨db, 0, none⟩ _))
      have HKEY : Hid (∀ w' : World, (w' = wr.setCell ⟨db, 0, none⟩ (.slice (tl (some ⟨b', o', none⟩) c' k7) (n' - k7) (c' - k7))) → w'.ownsRow w.heap.size 4 1 u4 k ((List.range k).map fun i => .bool (bitR (bs (i / 8 + wd)) (i % 8))) ∧
          w'.heap[db]? = some (.cells #[.slice (tl (tl x c wd) (c - wd) ((k + 7) / 8)) (n - wd - (k + 7) / 8) (c - wd - (k + 7) / 8), .nilIface] 30 (0, 0)) ∧ w.grownBy w' (some db)) := key
      clear key HO HX HN HC hB1 hbel
      by_cases hck : c' = k7
      · have HCK : Hid (c' = k7) := hck
        go_wp2_with fail
        go_ret
        have K := HKEY.out (wr.setCell ⟨db, 0, none⟩ (.slice (some ⟨b', o', none⟩) (n' - k7) 0)) (by simp [tl, HCK.out])
        exact ⟨_, rfl, K.1, HNIL.out, K.2.1, K.2.2⟩
      · have HCK : Hid (¬ c' = k7) := hck
        go_wp2_with fail
        go_ret
        have K := HKEY.out (wr.setCell ⟨db, 0, none⟩ (.slice (some ⟨b', o' + k7, none⟩) (n' - k7) (c' - k7))) (by simp [tl, HCK.out])
        exact ⟨_, rfl, K.1, HNIL.out, K.2.1, K.2.2⟩
end Go.Proofs.Ybulkdxow
