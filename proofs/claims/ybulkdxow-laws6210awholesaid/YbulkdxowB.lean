import Derived.Test.YbulkdxowA
namespace Go.Proofs.Ybulkdxow
open Go.RowKit

/-! ### bytes.Equal -/
def strB (bs : Nat → Int) (n : Nat) : ByteArray := strOfNums ((List.range n).map bs)
theorem conv_zero (x : Option Addr) (c : Nat) (bs : Nat → Int) (w : World) : (convert 22 9 (.slice x 0 c)).run Yba.prog w = .ok (.string (strB bs 0)) w := by
  rw [run_convert_bytes_string w 22 9 5 x 0 c Yba.underlying22 Yba.underlying5 Yba.underlying9]
  cases x with
  | none => simp [Conv.bytesToString, strB, strOfNums]; rfl
  | some a => simp [Conv.bytesToString, strB, strOfNums, loadCells, loadCellsFrom]; rfl
theorem conv_any {w : World} {x : Option Addr} {n c : Nat} {bs : Nat → Int} (h : IsB w x n c bs) : (convert 22 9 (.slice x n c)).run Yba.prog w = .ok (.string (strB bs n)) w := by
  rcases h with ⟨rfl, rfl, rfl⟩ | ⟨ad, rfl, rfl⟩ | ⟨b, o, rfl, hpos, _, hlt, hc⟩
  · exact conv_zero _ _ _ _
  · exact conv_zero _ _ _ _
  · exact run_convert_bytes_arg w 22 5 Yba.underlying22 Yba.underlying5 b o n c ((List.range n).map bs) (by simp) (fun i hi => by rw [(hc i hi).1]; simp [hi]) 9 Yba.underlying9
set_option maxHeartbeats 400000 in
theorem equal_any (x y : Option Addr) (n c d : Nat) (bs : Nat → Int) (w : World) (hx : IsB w x n c bs) (hy : IsB w y n d bs) :
    Calls Yba.prog 8 #[.slice x n c, .slice y n d] w fun e w' => e = .returned (.bool true) ∧ w' = w := by
  have h1 := conv_any hx
  have h2 := conv_any hy
  clear hx hy
  go_enter Yba.func8, Yba.ntmps8
  go_wp2
  go_ret
  exact ⟨rfl, rfl⟩

/-! ### errors.New -/
set_option maxHeartbeats 400000 in
theorem new_any (s : ByteArray) (w : World) :
    Calls Yba.prog 6 #[.string s] w fun e w' => e = .returned (.iface 54 (.pointer (some ⟨w.heap.size, 0, none⟩))) ∧ w' = w.alloc (.cells #[.string s] 56) := by
  go_enter Yba.func6, Yba.ntmps6
  go_wp2
  go_ret
  exact ⟨rfl, rfl⟩

/-! ### decoder.fail -/
theorem cells2 {w : World} {b : Nat} {x y : Value} {t : TypeId} (h : w.heap[b]? = some (.cells #[x, y] t (0, 0))) :
    w.cell? ⟨b, 0, none⟩ = some x ∧ w.cell? ⟨b, 1, none⟩ = some y ∧ w.frozen? ⟨b, 0, none⟩ = false ∧ w.frozen? ⟨b, 1, none⟩ = false ∧ b < w.heap.size := by
  refine ⟨?_, ?_, ?_, ?_, (Array.getElem?_eq_some_iff.1 h).1⟩ <;> simp [World.cell?, World.frozen?, h]
theorem heap_setCell {w : World} {b o : Nat} {cs : Array Value} {t : TypeId} {fr : Nat × Nat} {v : Value} (h : w.heap[b]? = some (.cells cs t fr)) : (w.setCell ⟨b, o, none⟩ v).heap[b]? = some (.cells (cs.setIfInBounds o v) t fr) := by
  simp [World.setCell, Array.getElem?_modify, h]
theorem grown_setCell (w : World) (a : Addr) (v : Value) : w.grownBy (w.setCell a v) (some a.block) :=
  ⟨rfl, rfl, rfl, by simp [World.setCell], fun k _ hne => Below.heap_setCell _ _ _ _ (fun e => hne (by rw [e]))⟩
theorem grown_trans {w w1 w2 : World} {r : Option Nat} (h : w.grownBy w1 r) (h' : w1.grownBy w2 r) : w.grownBy w2 r :=
  ⟨h'.os.trans h.os, h'.tape.trans h.tape, h'.output.trans h.output, Nat.le_trans h.size h'.size, fun k hk hne => (h'.block k (Nat.lt_of_lt_of_le hk h.size) hne).trans (h.block k hk hne)⟩
theorem grown_of_below {w w1 : World} (r : Option Nat) (h : Below w.heap.size w w1) : w.grownBy w1 r := ⟨h.os, h.tape, h.output, h.size, fun k hk _ => h.block k hk⟩
theorem grown_drew (w : World) (r : Option Nat) (m : Nat) : w.grownBy (w.drewN m) r := ⟨rfl, rfl, rfl, Nat.le_refl _, fun _ _ _ => rfl⟩

set_option maxHeartbeats 400000 in
theorem fail_set (db : Nat) (bv : Value) (t : TypeId) (v : Value) (s : ByteArray) (w : World) (h : w.heap[db]? = some (.cells #[bv, .iface t v] 30 (0, 0))) :
    Calls Yba.prog 17 #[.pointer (some ⟨db, 0, none⟩), .string s] w fun e w' => e = .returned (.tuple #[]) ∧ w' = w := by
  obtain ⟨c0, c1, f0, f1, hlt⟩ := cells2 h
  clear h
  go_enter Yba.func17, Yba.ntmps17
  go_wp2
  go_end0
  exact ⟨rfl, rfl⟩
set_option maxHeartbeats 400000 in
theorem fail_new (db : Nat) (x : Option Addr) (n c : Nat) (s : ByteArray) (w : World) (h : w.heap[db]? = some (.cells #[.slice x n c, .nilIface] 30 (0, 0))) :
    Calls Yba.prog 17 #[.pointer (some ⟨db, 0, none⟩), .string s] w fun e w' => e = .returned (.tuple #[]) ∧ w'.heap[db]? = some (.cells #[.slice none 0 0, .iface 54 (.pointer (some ⟨w.heap.size, 0, none⟩))] 30 (0, 0)) ∧ w.grownBy w' (some db) := by
  obtain ⟨c0, c1, f0, f1, hlt⟩ := cells2 h
  have HH : Hid (w.heap[db]? = some (.cells #[.slice x n c, .nilIface] 30 (0, 0))) := h
  clear h
  go_enter Yba.func17, Yba.ntmps17
  go_wp2_with fail
  refine (new_any s _).mono ?_
  rintro e w' ⟨rfl, rfl⟩
  go_wp2_with fail
  go_end0
  refine ⟨rfl, ?_, ?_⟩
  · rw [heap_alloc_old _ _ (by simp [World.setCell, hlt])]
    have := heap_setCell (o := 0) (v := .slice none 0 0) (heap_setCell (o := 1) (v := .iface 54 (.pointer (some ⟨w.heap.size, 0, none⟩))) HH.out)
    simpa using this
  · exact grown_trans (grown_trans (grown_setCell w ⟨db, 1, none⟩ _) (grown_setCell _ ⟨db, 0, none⟩ _)) (World.grownBy_alloc _ _ _)

/-! ### decoder.uvarint -/
/-- the address of 'x[lo:]' -/
def tl (x : Option Addr) (c lo : Nat) : Option Addr := x.map fun a => if c = lo then a else ⟨a.block, a.off + lo, none⟩
theorem tl_is {w : World} {x : Option Addr} {n c lo : Nat} {bs : Nat → Int} (h : IsB w x n c bs) (hlo : lo ≤ n) : IsB w (tl x c lo) (n - lo) (c - lo) (fun i => bs (i + lo)) := by
  rcases h with ⟨rfl, rfl, rfl⟩ | ⟨ad, rfl, rfl⟩ | ⟨b, o, rfl, hpos, hnc, hlt, hc⟩
  · exact .inl ⟨rfl, by omega, by omega⟩
  · exact .inr (.inl ⟨_, rfl, by omega⟩)
  · by_cases h0 : n - lo = 0
    · exact .inr (.inl ⟨_, rfl, h0⟩)
    · refine .inr (.inr ⟨b, o + lo, ?_, by omega, by omega, hlt, fun i hi => ?_⟩)
      · simp only [tl, Option.map_some]
        rw [if_neg (by omega)]
      · have := hc (i + lo) (by omega)
        rw [show o + lo + i = o + (i + lo) by omega]
        exact this
theorem tl_none (x : Option Addr) (c lo : Nat) : (tl x c lo).isNone = x.isNone := by cases x <;> rfl

set_option maxHeartbeats 400000 in
theorem duv_none_set (db : Nat) (x : Option Addr) (n c : Nat) (bs : Nat → Int) (t : TypeId) (v : Value) (w : World) (hn : n ≤ 1073741824) (hB : IsB w x n c bs) (hU : uv bs n = none) (h : w.heap[db]? = some (.cells #[.slice x n c, .iface t v] 30 (0, 0))) :
    Calls Yba.prog 16 #[.pointer (some ⟨db, 0, none⟩)] w fun e w' => e = .returned (.int .u64 0) ∧ w' = w := by
  obtain ⟨c0, c1, f0, f1, hlt⟩ := cells2 h
  have HH : Hid (w.heap[db]? = some (.cells #[.slice x n c, .iface t v] 30 (0, 0))) := h
  have HU : Hid (uv bs n = none) := hU
  clear h hU
  go_enter Yba.func16, Yba.ntmps16
  go_wp2_with fail
  refine (uvarint_any x n c bs _ hn hB).mono ?_
  rintro e w' ⟨⟨u, m, rfl, hout⟩, rfl⟩
  rcases hout with ⟨wd, h1, _⟩ | ⟨_, hm, hm2⟩
  · rw [HU.out] at h1; cases h1
  go_wp2_with fail
  refine (fail_set db (.slice x n c) t v _ _ HH.out).mono ?_
  rintro e w' ⟨rfl, rfl⟩
  go_wp2_with fail
  go_ret
  exact ⟨rfl, rfl⟩
set_option maxHeartbeats 400000 in
theorem duv_none_nil (db : Nat) (x : Option Addr) (n c : Nat) (bs : Nat → Int) (w : World) (hn : n ≤ 1073741824) (hB : IsB w x n c bs) (hU : uv bs n = none) (h : w.heap[db]? = some (.cells #[.slice x n c, .nilIface] 30 (0, 0))) :
    Calls Yba.prog 16 #[.pointer (some ⟨db, 0, none⟩)] w fun e w' => e = .returned (.int .u64 0) ∧ (∃ q, w'.heap[db]? = some (.cells #[.slice none 0 0, .iface 54 (.pointer (some q))] 30 (0, 0))) ∧ w.grownBy w' (some db) := by
  obtain ⟨c0, c1, f0, f1, hlt⟩ := cells2 h
  have HH : Hid (w.heap[db]? = some (.cells #[.slice x n c, .nilIface] 30 (0, 0))) := h
  have HU : Hid (uv bs n = none) := hU
  clear h hU
  go_enter Yba.func16, Yba.ntmps16
  go_wp2_with fail
  refine (uvarint_any x n c bs _ hn hB).mono ?_
  rintro e w' ⟨⟨u, m, rfl, hout⟩, rfl⟩
  rcases hout with ⟨wd, h1, _⟩ | ⟨_, hm, hm2⟩
  · rw [HU.out] at h1; cases h1
  go_wp2_with fail
  refine (fail_new db x n c _ _ HH.out).mono ?_
  rintro e w2 ⟨rfl, hb2, hg2⟩
  have HB2 : Hid (w2.heap[db]? = some (.cells #[.slice none 0 0, .iface 54 (.pointer (some ⟨w'.heap.size, 0, none⟩))] 30 (0, 0))) := hb2
  clear hb2
  go_wp2_with fail
  go_ret
  exact ⟨rfl, ⟨_, HB2.out⟩, hg2⟩
set_option maxHeartbeats 400000 in
theorem duv_some (db : Nat) (x : Option Addr) (n c : Nat) (bs : Nat → Int) (ev : Value) (u : Int) (wd : Nat) (w : World) (hn : n ≤ 1073741824) (hB : IsB w x n c bs) (hU : uv bs n = some (u, wd)) (h : w.heap[db]? = some (.cells #[.slice x n c, ev] 30 (0, 0))) :
    Calls Yba.prog 16 #[.pointer (some ⟨db, 0, none⟩)] w fun e w' => e = .returned (.int .u64 u) ∧ w'.heap[db]? = some (.cells #[.slice (tl x c wd) (n - wd) (c - wd), ev] 30 (0, 0)) ∧ w.grownBy w' (some db) := by
  obtain ⟨c0, c1, f0, f1, hlt⟩ := cells2 h
  have HH : Hid (w.heap[db]? = some (.cells #[.slice x n c, ev] 30 (0, 0))) := h
  have HU : Hid (uv bs n = some (u, wd)) := hU
  have hbd := uv_bd hU
  obtain ⟨_, _, hw0, hwn⟩ := hbd
  clear h hU
  have hB' := hB
  rcases hB' with ⟨_, h, _⟩ | ⟨_, _, h⟩ | ⟨b, o, rfl, hpos, hnc, hltb, _⟩
  · omega
  · omega
  go_enter Yba.func16, Yba.ntmps16
  go_wp2_with fail
  refine (uvarint_any _ n c bs _ hn hB).mono ?_
  rintro e w' ⟨⟨u', m, rfl, hout⟩, rfl⟩
  rcases hout with ⟨wd', h1, h2⟩ | ⟨h1, _, _⟩
  · rw [HU.out] at h1
    simp at h1
    obtain ⟨rfl, rfl⟩ := h1
    subst h2
    have i1 : (wd : Int) ≤ (n : Int) := by omega
    have i2 : (0 : Int) < (wd : Int) := by omega
    have i3 : (n : Int) ≤ (c : Int) := by omega
    clear hB
    by_cases hcw : c = wd
    · have HC : Hid (c = wd) := hcw
      go_wp2_with fail
      go_ret
      refine ⟨rfl, ?_, grown_setCell _ ⟨db, 0, none⟩ _⟩
      rw [heap_setCell HH.out]
      simp [tl, HC.out]
    · have HC : Hid (¬ c = wd) := hcw
      go_wp2_with fail
      go_ret
      refine ⟨rfl, ?_, grown_setCell _ ⟨db, 0, none⟩ _⟩
      rw [heap_setCell HH.out]
      simp [tl, HC.out]
  · rw [HU.out] at h1; cases h1
end Go.Proofs.Ybulkdxow
