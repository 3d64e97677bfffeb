import Derived.Test.YbulkdxngP
import Derived.WalkKit
import Derived.WalkSpells
import Derived.WalkLawsBesides
import Derived.Deep.QuietTactic
import Derived.BigQuiet
import Derived.Deep.Cut
import Derived.Deep.CutRange
import Derived.Deep.RegionWith
import Derived.Deep.RegionLaw
import Derived.Deep.RegionHeld3
import Derived.OpenShut
import Derived.Laws.AppendOwnNone
namespace Go.Proofs.Ybulkdxng.D
open Go.RowKit
set_option linter.unusedVariables false

/-! ### Rows of integers -/
def row (n : Nat) (f : Nat → Int) : Array Value := ((List.range n).map fun i => Value.int .i64 (f i)).toArray
def rowN (n : Nat) (f : Nat → Nat) : Array Value := row n fun i => (f i : Int)
theorem size_row (n : Nat) (f : Nat → Int) : (row n f).size = n := by simp [row]
theorem get_row {n i : Nat} (f : Nat → Int) (h : i < n) : (row n f)[i]? = some (.int .i64 (f i)) := by simp [row, h]
theorem row_congr {n : Nat} {f g : Nat → Int} (h : ∀ i, i < n → f i = g i) : row n f = row n g := by
  unfold row
  congr 1
  exact List.map_congr_left fun i hi => by rw [h i (List.mem_range.1 hi)]
theorem set_row {n i : Nat} (f : Nat → Int) (z : Int) (h : i < n) : (row n f).setIfInBounds i (.int .i64 z) = row n (upd f i z) := by
  apply Array.ext_getElem?
  intro j
  rw [Array.getElem?_setIfInBounds]
  by_cases e : i = j
  · subst e
    rw [if_pos rfl, if_pos (by rw [size_row]; exact h), get_row _ h, upd_same]
  · rw [if_neg e]
    by_cases hj : j < n
    · rw [get_row _ hj, get_row _ hj, upd_ne _ _ (fun h => e h.symm)]
    · rw [Array.getElem?_eq_none (by rw [size_row]; omega), Array.getElem?_eq_none (by rw [size_row]; omega)]
theorem set_rowN {n i : Nat} (f : Nat → Nat) (z : Nat) (h : i < n) : (rowN n f).setIfInBounds i (.int .i64 (z : Int)) = rowN n (updN f i z) := by
  unfold rowN
  rw [set_row _ _ h]
  refine row_congr fun j _ => ?_
  by_cases e : j = i
  · subst e; rw [upd_same, updN_same]
  · rw [upd_ne _ _ e, updN_ne _ _ e]
theorem heap_setCell {w : World} {b o : Nat} {cs : Array Value} {t : TypeId} {fr : Nat × Nat} {v : Value} (h : w.heap[b]? = some (.cells cs t fr)) : (w.setCell ⟨b, o, none⟩ v).heap[b]? = some (.cells (cs.setIfInBounds o v) t fr) := by
  simp [World.setCell, Array.getElem?_modify, h]

/-! ### The flow in memory -/
structure Blk where
  F : Nat
  bf : Nat
  bt : Nat
  bl : Nat
  bb : Nat
  bv : Nat
  bn : Nat
structure Blk.Dis (B : Blk) : Prop where
  l1 : B.F ≠ B.bl
  l2 : B.bf ≠ B.bl
  l3 : B.bt ≠ B.bl
  l4 : B.bb ≠ B.bl
  l5 : B.bv ≠ B.bl
  l6 : B.bn ≠ B.bl
  n1 : B.F ≠ B.bn
  n2 : B.bf ≠ B.bn
  n3 : B.bt ≠ B.bn
  n4 : B.bb ≠ B.bn
  n5 : B.bv ≠ B.bn
  v1 : B.F ≠ B.bv
  v2 : B.bf ≠ B.bv
  v3 : B.bt ≠ B.bv
  v4 : B.bb ≠ B.bv
  f1 : B.bf ≠ B.F
  f2 : B.bt ≠ B.F
  f3 : B.bb ≠ B.F
structure FW (B : Blk) (N : Net) (lev : Nat → Int) (l : Nat → Int) (nx : Nat → Nat) (q : Value) (w : World) : Prop where
  f : w.heap[B.F]? = some (.cells #[.slice (some ⟨B.bf, 0, none⟩) (N.V + 1) (N.V + 1), .slice (some ⟨B.bt, 0, none⟩) N.E N.E, .slice (some ⟨B.bl, 0, none⟩) N.E N.E, .slice (some ⟨B.bb, 0, none⟩) N.E N.E, .slice (some ⟨B.bv, 0, none⟩) N.V N.V, .slice (some ⟨B.bn, 0, none⟩) N.V N.V, q] 31 (0, 0))
  first : w.heap[B.bf]? = some (.cells (rowN (N.V + 1) N.first) 3 (0, 0))
  dest : w.heap[B.bt]? = some (.cells (rowN N.E N.to) 3 (0, 0))
  left : w.heap[B.bl]? = some (.cells (row N.E l) 2 (0, 0))
  back : w.heap[B.bb]? = some (.cells (rowN N.E N.back) 3 (0, 0))
  level : w.heap[B.bv]? = some (.cells (row N.V lev) 3 (0, 0))
  next : w.heap[B.bn]? = some (.cells (rowN N.V nx) 3 (0, 0))
theorem cell_row {w : World} {b n i : Nat} {f : Nat → Int} {t : TypeId} (h : w.heap[b]? = some (.cells (row n f) t (0, 0))) (hi : i < n) : w.cell? ⟨b, i, none⟩ = some (.int .i64 (f i)) := by
  simp [World.cell?, h, get_row _ hi]
theorem cell_rowN {w : World} {b n i : Nat} {f : Nat → Nat} {t : TypeId} (h : w.heap[b]? = some (.cells (rowN n f) t (0, 0))) (hi : i < n) : w.cell? ⟨b, i, none⟩ = some (.int .i64 (f i : Int)) := cell_row h hi
theorem frozen_row {w : World} {b : Nat} {C : Array Value} {t : TypeId} (h : w.heap[b]? = some (.cells C t (0, 0))) (o : Nat) : w.frozen? ⟨b, o, none⟩ = false := by
  simp [World.frozen?, h]
section
variable {B : Blk} {N : Net} {lev : Nat → Int} {l : Nat → Int} {nx : Nat → Nat} {q : Value} {w : World}
theorem FW.cells (h : FW B N lev l nx q w) : w.cell? ⟨B.F, 0, none⟩ = some (.slice (some ⟨B.bf, 0, none⟩) (N.V + 1) (N.V + 1)) ∧ w.cell? ⟨B.F, 1, none⟩ = some (.slice (some ⟨B.bt, 0, none⟩) N.E N.E) ∧ w.cell? ⟨B.F, 2, none⟩ = some (.slice (some ⟨B.bl, 0, none⟩) N.E N.E) ∧ w.cell? ⟨B.F, 3, none⟩ = some (.slice (some ⟨B.bb, 0, none⟩) N.E N.E) ∧ w.cell? ⟨B.F, 4, none⟩ = some (.slice (some ⟨B.bv, 0, none⟩) N.V N.V) ∧ w.cell? ⟨B.F, 5, none⟩ = some (.slice (some ⟨B.bn, 0, none⟩) N.V N.V) ∧ w.cell? ⟨B.F, 6, none⟩ = some q := by
  simp [World.cell?, h.f]
theorem FW.drew (h : FW B N lev l nx q w) (k : Nat) : FW B N lev l nx q (w.drewN k) := ⟨h.f, h.first, h.dest, h.left, h.back, h.level, h.next⟩
theorem FW.drew1 (h : FW B N lev l nx q w) : FW B N lev l nx q w.drew := ⟨h.f, h.first, h.dest, h.left, h.back, h.level, h.next⟩
theorem FW.setLeft (h : FW B N lev l nx q w) (hd : B.Dis) {e : Nat} (he : e < N.E) (z : Int) : FW B N lev (upd l e z) nx q (w.setCell ⟨B.bl, e, none⟩ (.int .i64 z)) :=
  ⟨by rw [Below.heap_setCell _ _ _ _ hd.l1]; exact h.f, by rw [Below.heap_setCell _ _ _ _ hd.l2]; exact h.first, by rw [Below.heap_setCell _ _ _ _ hd.l3]; exact h.dest, by rw [heap_setCell h.left, set_row _ _ he], by rw [Below.heap_setCell _ _ _ _ hd.l4]; exact h.back, by rw [Below.heap_setCell _ _ _ _ hd.l5]; exact h.level, by rw [Below.heap_setCell _ _ _ _ hd.l6]; exact h.next⟩
theorem FW.setNext (h : FW B N lev l nx q w) (hd : B.Dis) {u : Nat} (hu : u < N.V) (z : Nat) : FW B N lev l (updN nx u z) q (w.setCell ⟨B.bn, u, none⟩ (.int .i64 (z : Int))) :=
  ⟨by rw [Below.heap_setCell _ _ _ _ hd.n1]; exact h.f, by rw [Below.heap_setCell _ _ _ _ hd.n2]; exact h.first, by rw [Below.heap_setCell _ _ _ _ hd.n3]; exact h.dest, by rw [Below.heap_setCell _ _ _ _ (Ne.symm hd.l6)]; exact h.left, by rw [Below.heap_setCell _ _ _ _ hd.n4]; exact h.back, by rw [Below.heap_setCell _ _ _ _ hd.n5]; exact h.level, by rw [heap_setCell h.next, set_rowN _ _ hu]⟩
theorem FW.incNext (h : FW B N lev l nx q w) (hd : B.Dis) {u : Nat} (hu : u < N.V) (z : Nat) : FW B N lev l (updN nx u (z + 1)) q (w.setCell ⟨B.bn, u, none⟩ (.int .i64 ((z : Int) + 1))) := h.setNext hd hu (z + 1)
end
/-- what send may change -/
structure Same (B : Blk) (w w' : World) : Prop where
  os : w'.os = w.os
  tape : w'.tape = w.tape
  output : w'.output = w.output
  size : w.heap.size = w'.heap.size
  block : ∀ k, k ≠ B.bl → k ≠ B.bn → w'.heap[k]? = w.heap[k]?
section
variable {B : Blk} {w w' w'' : World}
theorem Same.refl (B : Blk) (w : World) : Same B w w := ⟨rfl, rfl, rfl, rfl, fun _ _ _ => rfl⟩
theorem Same.trans (h : Same B w w') (k : Same B w' w'') : Same B w w'' := ⟨k.os.trans h.os, k.tape.trans h.tape, k.output.trans h.output, h.size.trans k.size, fun i h1 h2 => (k.block i h1 h2).trans (h.block i h1 h2)⟩
theorem Same.drew (h : Same B w w') (n : Nat) : Same B w (w'.drewN n) := h.trans ⟨rfl, rfl, rfl, rfl, fun _ _ _ => rfl⟩
theorem Same.drew1 (h : Same B w w') : Same B w w'.drew := h.trans ⟨rfl, rfl, rfl, rfl, fun _ _ _ => rfl⟩
theorem Same.setLeft (h : Same B w w') (e : Nat) (v : Value) : Same B w (w'.setCell ⟨B.bl, e, none⟩ v) := h.trans ⟨rfl, rfl, rfl, by simp [World.setCell], fun k h1 _ => Below.heap_setCell _ _ _ _ h1⟩
theorem Same.setNext (h : Same B w w') (e : Nat) (v : Value) : Same B w (w'.setCell ⟨B.bn, e, none⟩ v) := h.trans ⟨rfl, rfl, rfl, by simp [World.setCell], fun k _ h2 => Below.heap_setCell _ _ _ _ h2⟩
theorem Same.below (h : Same B w w') {b : Nat} (h1 : b ≤ B.bl) (h2 : b ≤ B.bn) : Below b w w' := ⟨h.os, h.tape, h.output, Nat.le_of_eq h.size, fun k hk => h.block k (by omega) (by omega)⟩
end
def cellN (w : World) (a : Addr) : Nat := match w.cell? a with
  | some (.int _ z) => z.toNat
  | _ => 0

theorem FW.cellN {B : Blk} {N : Net} {lev : Nat → Int} {l : Nat → Int} {nx : Nat → Nat} {q : Value} {w : World} (h : FW B N lev l nx q w) {u : Nat} (hu : u < N.V) : cellN w ⟨B.bn, u, none⟩ = nx u := by
  unfold D.cellN
  rw [cell_rowN h.next hu]
  simp

set_option maxRecDepth 100000 in
set_option maxHeartbeats 1600000 in
theorem send_any {B : Blk} {N : Net} {lev : Nat → Int} {q : Value} (hN : N.OK) (hd : B.Dis) (hV : N.V ≤ 1000) (hE : N.E ≤ 1000000) (hlev : ∀ v, v < N.V → -1 ≤ lev v ∧ lev v ≤ 1000) :
    ∀ (d : Nat) (u : Nat) (most : Int) (l : Nat → Int) (nx : Nat → Nat) (w : World), (1000 - lev u).toNat = d → u < N.V → 0 < most → most ≤ 9223372036854775807 → FW B N lev l nx q w → St N lev l nx →
    Calls Yba.prog 16 #[.pointer (some ⟨B.F, 0, none⟩), .int .i64 (u : Int), .int .i64 most] w fun e w' => ∃ s l' nx', e = .returned (.int .i64 s) ∧ FW B N lev l' nx' q w' ∧ Same B w w' ∧ St N lev l' nx' ∧ Sent N lev u s l nx l' nx' ∧ s ≤ most ∧ (s < most → ¬ Path N lev l' u) := by
  intro d
  induction d using Nat.strongRecOn with
  | ind d ih =>
    intro u most l nx w hdd hu hm0 hm1 hfw hst
    have hV2 := hN.two
    by_cases hsink : u = N.sink
    · have hs' : (u : Int) = (N.V : Int) - 1 := by unfold Net.sink at hsink; omega
      obtain ⟨f0, f1, f2, f3, f4, f5, f6⟩ := hfw.cells
      have HS : Hid (u = N.sink) := hsink
      have HF : Hid (FW B N lev l nx q w) := hfw
      have HT : Hid (St N lev l nx) := hst
      clear hfw hst hsink ih
      go_enter Yba.func16, Yba.ntmps16
      go_wp2_with fail
      go_ret
      exact ⟨most, l, nx, rfl, HF.out, Same.refl _ _, HT.out, by rw [HS.out]; exact Sent.sink most (by omega) l nx, Int.le_refl _, fun h => by omega⟩
    · have hs0' : ¬ (u : Int) = (N.V : Int) - 1 := by unfold Net.sink at hsink; omega
      have hs' : ((u : Int) == (N.V : Int) - 1) = false := by simpa using hs0'
      clear hs0'
      have HS : Hid (u ≠ N.sink) := hsink
      have HF : Hid (FW B N lev l nx q w) := hfw
      have HT : Hid (St N lev l nx) := hst
      have HIH : Hid (∀ m, m < d → ∀ (u : Nat) (most : Int) (l : Nat → Int) (nx : Nat → Nat) (w : World), (1000 - lev u).toNat = m → u < N.V → 0 < most → most ≤ 9223372036854775807 → FW B N lev l nx q w → St N lev l nx →
        Calls Yba.prog 16 #[.pointer (some ⟨B.F, 0, none⟩), .int .i64 (u : Int), .int .i64 most] w fun e w' => ∃ s l' nx', e = .returned (.int .i64 s) ∧ FW B N lev l' nx' q w' ∧ Same B w w' ∧ St N lev l' nx' ∧ Sent N lev u s l nx l' nx' ∧ s ≤ most ∧ (s < most → ¬ Path N lev l' u)) := ih
      have HDD : Hid ((1000 - lev u).toNat = d) := hdd
      have HLEV : Hid (∀ v, v < N.V → -1 ≤ lev v ∧ lev v ≤ 1000) := hlev
      obtain ⟨lv1, lv2⟩ := hlev u hu
      obtain ⟨f0, f1, f2, f3, f4, f5, f6⟩ := hfw.cells
      clear hfw hst hsink ih hdd hlev
      go_enter Yba.func16, Yba.ntmps16
      go_wp2_with fail
      clear f0 f1 f2 f3 f4 f5 f6
      go_loopw [7] (fun sv wr => ∃ (s : Int) (l1 : Nat → Int) (n1 : Nat → Nat), sv = .int .i64 s ∧ s ≤ most ∧ FW B N lev l1 n1 q wr ∧ Same B w wr ∧ St N lev l1 n1 ∧ Sent N lev u s l nx l1 n1) (fun sv wr => (most - intOf sv).toNat + (N.first (u + 1) - cellN wr ⟨B.bn, u, none⟩))
      case atStart => exact ⟨0, l, nx, rfl, by omega, HF.out, Same.refl _ _, HT.out, Sent.refl _ _ _⟩
      case round =>
        obtain ⟨s, l1, n1, rfl, hsm, hfw, hsame, hst, hsent⟩ := hrel
        have hs0 := hsent.nonneg
        obtain ⟨f0, f1, f2, f3, f4, f5, f6⟩ := hfw.cells
        have HFW : Hid (FW B N lev l1 n1 q wr) := hfw
        have HSA : Hid (Same B w wr) := hsame
        have HST : Hid (St N lev l1 n1) := hst
        have HSE : Hid (Sent N lev u s l nx l1 n1) := hsent
        have hnlo := hst.lo u hu
        have hnhi := hst.hi u hu
        have htop := hN.top (u + 1) (by omega)
        have c1 := cell_rowN hfw.next hu
        have c2 := cell_rowN hfw.first (show u + 1 < N.V + 1 by omega)
        have hu1 : ((u + 1 : Nat) : Int) = (u : Int) + 1 := by omega
        have hu' : (u : Int) < (N.V : Int) := by omega
        have HCN : Hid (cellN wr ⟨B.bn, u, none⟩ = n1 u) := HFW.out.cellN hu
        clear hfw hsame hst hsent
        by_cases hsmost : s < most
        · by_cases hnx : n1 u < N.first (u + 1)
          · have hd1 : decide (s < most) = true := by simp [hsmost]
            have hd2 : ((n1 u : Nat) : Int) < (N.first (u + 1) : Int) := by omega
            obtain ⟨e, he⟩ : ∃ e, e = n1 u := ⟨_, rfl⟩
            have HE : Hid (e = n1 u) := he
            rw [← he] at c1 hd2 hnx hnlo hnhi
            have heE : e < N.E := by omega
            have c3 := cell_rowN HFW.out.dest heE
            have c4 := cell_row HFW.out.left heE
            have hown := hN.slot u e hu hnlo hnx
            have HOWN : Hid (N.own e = u) := hown
            have htl := hN.to_lt e heE
            clear he hown
            go_wp2_with fail
            go_quiet (fail)
            go_wp2_with fail
            by_cases hl0 : 0 < l1 e
            · have hd3 : decide (0 < l1 e) = true := by simp [hl0]
              have c5 := cell_row HFW.out.level htl
              have c6 := cell_row HFW.out.level hu
              by_cases hle : lev (N.to e) = lev u + 1
              · have HLE : Hid (LE N lev e) := show LE N lev e by unfold LE; rw [HOWN.out]; exact hle
                have hlb := (HST.out.val.bounds hN heE).2
                go_quiet (fail)
                by_cases hmin : l1 e < most - s
                · go_wp2_with fail
                  · obtain ⟨want, hwant⟩ : ∃ want : Int, want = l1 e := ⟨_, rfl⟩
                    rw [← hwant]
                    have hw0 : 0 < want := by omega
                    have hw1 : want ≤ l1 e := by omega
                    have hw2 : s + want ≤ most := by omega
                    have HW : Hid (want = l1 e) := hwant
                    clear hwant
                    refine (HIH.out _ (by have := HDD.out; have := (HLEV.out _ htl).2; omega) (N.to e) want l1 n1 _ rfl htl hw0 (by omega) (by exact (HFW.out.drew _)) HST.out).mono ?_
                    rintro e1 w2 ⟨got, l2, n2, rfl, hfw2, hsame2, hst2, hsent2, hgw, hdead⟩
                    obtain ⟨P1, P2, P3, P4, P5⟩ := push hN hu HSE.out heE HOWN.out hl0 HLE.out hst2 hsent2 (by omega)
                    have hg0 := hsent2.nonneg
                    have hlb2 := (hst2.val.bounds hN heE)
                    have hbE := hN.back_lt e heE
                    have vb2 := hst2.val.bounds hN hbE
                    have vb3 := P1.val.bounds hN hbE
                    rw [upd_same] at vb3
                    have hne : N.back e ≠ e := by
                      intro h
                      have h1 := hN.own_back e heE
                      rw [h, HOWN.out] at h1
                      rw [← h1] at hle
                      omega
                    obtain ⟨f0, f1, f2, f3, f4, f5, f6⟩ := hfw2.cells
                    have d1 := cell_row hfw2.left heE
                    have z1 := frozen_row hfw2.left e
                    rw [P4] at d1
                    have HFW2 : Hid (FW B N lev l2 n2 q w2) := hfw2
                    have HSA2 : Hid (Same B _ w2) := hsame2
                    have H4 : Hid (l2 e = l1 e) := P4
                    have H5 : Hid (n2 u = n1 u) := P5
                    have HP1 := P1
                    have HP2 := P2
                    have HP1' : Hid (St N lev (upd (upd l2 e (l2 e - got)) (N.back e) (l2 (N.back e) + got)) n2) := P1
                    have HP2' : Hid (Sent N lev u (s + got) l nx (upd (upd l2 e (l2 e - got)) (N.back e) (l2 (N.back e) + got)) n2) := P2
                    have HP3' : Hid (Falls N lev l2 (upd (upd l2 e (l2 e - got)) (N.back e) (l2 (N.back e) + got))) := P3
                    have HDE : Hid (got < want → ¬ Path N lev l2 (N.to e)) := hdead
                    clear P1 P2 P3 P4 P5 HP1 HP2 hfw2 hsame2 hst2 hsent2 hdead
                    go_wp2_with fail
                    have hfw3 := HFW2.out.setLeft hd heE (l2 e - got)
                    have hsa3 := HSA2.out.setLeft e (.int .i64 (l2 e - got))
                    rw [H4.out] at hfw3 hsa3
                    clear f0 f1 f2 f3 f4 f5 f6 d1 z1
                    generalize w2.setCell ⟨B.bl, e, none⟩ (.int .i64 (l1 e - got)) = W3 at *
                    obtain ⟨f0, f1, f2, f3, f4, f5, f6⟩ := hfw3.cells
                    have d1 := cell_rowN hfw3.back heE
                    have d2 := cell_row hfw3.left hbE
                    rw [upd_ne _ _ hne] at d2
                    have z1 := frozen_row hfw3.left (N.back e)
                    have HFW3 : Hid (FW B N lev (upd l2 e (l1 e - got)) n2 q W3) := hfw3
                    have HSA3 : Hid (Same B _ W3) := hsa3
                    clear hfw3 hsa3
                    go_region
                    have hfw4 := (HFW3.out.setLeft hd hbE (l2 (N.back e) + got)).drew1
                    have hsa4 := (HSA3.out.setLeft (N.back e) (.int .i64 (l2 (N.back e) + got))).drew1
                    clear f0 f1 f2 f3 f4 f5 f6 d1 d2 z1
                    generalize (W3.setCell ⟨B.bl, N.back e, none⟩ (.int .i64 (l2 (N.back e) + got))).drew = W4 at *
                    rw [← H4.out] at hfw4
                    have HFW4 : Hid (FW B N lev (upd (upd l2 e (l2 e - got)) (N.back e) (l2 (N.back e) + got)) n2 q W4) := hfw4
                    have HSA4 : Hid (Same B _ W4) := hsa4
                    obtain ⟨f0, f1, f2, f3, f4, f5, f6⟩ := hfw4.cells
                    have d1 := cell_rowN hfw4.next hu
                    rw [H5.out, ← HE.out] at d1
                    have z1 := frozen_row hfw4.next u
                    clear hfw4 hsa4
                    by_cases hgq : got = want
                    · have hgb : (got == want) = true := by simpa using hgq
                      have HGQ : Hid (got = want) := hgq
                      clear hgq
                      go_wp2_with fail
                      go_roundw
                      case rel => exact ⟨s + got, _, n2, rfl, by omega, HFW4.out, (HSA.out.drew _).trans HSA4.out, HP1'.out, HP2'.out⟩
                      case measure =>
                        rw [HFW4.out.cellN hu, HCN.out, H5.out]
                        simp only [intOf]
                        have := HGQ.out
                        omega
                    · go_wp2_with fail
                      go_roundw
                      case rel =>
                        have hk := skip hN hu HP1'.out HP2'.out (H5.out.trans HE.out.symm) hnx (.inr (.inr (fun p => HDE.out (by omega) (p.mono HP3'.out))))
                        exact ⟨s + got, _, updN n2 u (e + 1), rfl, by omega, HFW4.out.incNext hd hu e, ((HSA.out.drew _).trans HSA4.out).setNext _ _, hk.1, hk.2⟩
                      case measure =>
                        rw [FW.cellN (HFW4.out.incNext hd hu e) hu, updN_same, HCN.out, ← HE.out]
                        simp only [intOf]
                        omega
                · go_wp2_with fail
                  · obtain ⟨want, hwant⟩ : ∃ want : Int, want = most - s := ⟨_, rfl⟩
                    rw [← hwant]
                    have hw0 : 0 < want := by omega
                    have hw1 : want ≤ l1 e := by omega
                    have hw2 : s + want ≤ most := by omega
                    have HW : Hid (want = most - s) := hwant
                    clear hwant
                    refine (HIH.out _ (by have := HDD.out; have := (HLEV.out _ htl).2; omega) (N.to e) want l1 n1 _ rfl htl hw0 (by omega) (by exact (HFW.out.drew _)) HST.out).mono ?_
                    rintro e1 w2 ⟨got, l2, n2, rfl, hfw2, hsame2, hst2, hsent2, hgw, hdead⟩
                    obtain ⟨P1, P2, P3, P4, P5⟩ := push hN hu HSE.out heE HOWN.out hl0 HLE.out hst2 hsent2 (by omega)
                    have hg0 := hsent2.nonneg
                    have hlb2 := (hst2.val.bounds hN heE)
                    have hbE := hN.back_lt e heE
                    have vb2 := hst2.val.bounds hN hbE
                    have vb3 := P1.val.bounds hN hbE
                    rw [upd_same] at vb3
                    have hne : N.back e ≠ e := by
                      intro h
                      have h1 := hN.own_back e heE
                      rw [h, HOWN.out] at h1
                      rw [← h1] at hle
                      omega
                    obtain ⟨f0, f1, f2, f3, f4, f5, f6⟩ := hfw2.cells
                    have d1 := cell_row hfw2.left heE
                    have z1 := frozen_row hfw2.left e
                    rw [P4] at d1
                    have HFW2 : Hid (FW B N lev l2 n2 q w2) := hfw2
                    have HSA2 : Hid (Same B _ w2) := hsame2
                    have H4 : Hid (l2 e = l1 e) := P4
                    have H5 : Hid (n2 u = n1 u) := P5
                    have HP1 := P1
                    have HP2 := P2
                    have HP1' : Hid (St N lev (upd (upd l2 e (l2 e - got)) (N.back e) (l2 (N.back e) + got)) n2) := P1
                    have HP2' : Hid (Sent N lev u (s + got) l nx (upd (upd l2 e (l2 e - got)) (N.back e) (l2 (N.back e) + got)) n2) := P2
                    have HP3' : Hid (Falls N lev l2 (upd (upd l2 e (l2 e - got)) (N.back e) (l2 (N.back e) + got))) := P3
                    have HDE : Hid (got < want → ¬ Path N lev l2 (N.to e)) := hdead
                    clear P1 P2 P3 P4 P5 HP1 HP2 hfw2 hsame2 hst2 hsent2 hdead
                    go_wp2_with fail
                    have hfw3 := HFW2.out.setLeft hd heE (l2 e - got)
                    have hsa3 := HSA2.out.setLeft e (.int .i64 (l2 e - got))
                    rw [H4.out] at hfw3 hsa3
                    clear f0 f1 f2 f3 f4 f5 f6 d1 z1
                    generalize w2.setCell ⟨B.bl, e, none⟩ (.int .i64 (l1 e - got)) = W3 at *
                    obtain ⟨f0, f1, f2, f3, f4, f5, f6⟩ := hfw3.cells
                    have d1 := cell_rowN hfw3.back heE
                    have d2 := cell_row hfw3.left hbE
                    rw [upd_ne _ _ hne] at d2
                    have z1 := frozen_row hfw3.left (N.back e)
                    have HFW3 : Hid (FW B N lev (upd l2 e (l1 e - got)) n2 q W3) := hfw3
                    have HSA3 : Hid (Same B _ W3) := hsa3
                    clear hfw3 hsa3
                    go_region
                    have hfw4 := (HFW3.out.setLeft hd hbE (l2 (N.back e) + got)).drew1
                    have hsa4 := (HSA3.out.setLeft (N.back e) (.int .i64 (l2 (N.back e) + got))).drew1
                    clear f0 f1 f2 f3 f4 f5 f6 d1 d2 z1
                    generalize (W3.setCell ⟨B.bl, N.back e, none⟩ (.int .i64 (l2 (N.back e) + got))).drew = W4 at *
                    rw [← H4.out] at hfw4
                    have HFW4 : Hid (FW B N lev (upd (upd l2 e (l2 e - got)) (N.back e) (l2 (N.back e) + got)) n2 q W4) := hfw4
                    have HSA4 : Hid (Same B _ W4) := hsa4
                    obtain ⟨f0, f1, f2, f3, f4, f5, f6⟩ := hfw4.cells
                    have d1 := cell_rowN hfw4.next hu
                    rw [H5.out, ← HE.out] at d1
                    have z1 := frozen_row hfw4.next u
                    clear hfw4 hsa4
                    by_cases hgq : got = want
                    · have hgb : (got == want) = true := by simpa using hgq
                      have HGQ : Hid (got = want) := hgq
                      clear hgq
                      go_wp2_with fail
                      go_roundw
                      case rel => exact ⟨s + got, _, n2, rfl, by omega, HFW4.out, (HSA.out.drew _).trans HSA4.out, HP1'.out, HP2'.out⟩
                      case measure =>
                        rw [HFW4.out.cellN hu, HCN.out, H5.out]
                        simp only [intOf]
                        have := HGQ.out
                        omega
                    · go_wp2_with fail
                      go_roundw
                      case rel =>
                        have hk := skip hN hu HP1'.out HP2'.out (H5.out.trans HE.out.symm) hnx (.inr (.inr (fun p => HDE.out (by omega) (p.mono HP3'.out))))
                        exact ⟨s + got, _, updN n2 u (e + 1), rfl, by omega, HFW4.out.incNext hd hu e, ((HSA.out.drew _).trans HSA4.out).setNext _ _, hk.1, hk.2⟩
                      case measure =>
                        rw [FW.cellN (HFW4.out.incNext hd hu e) hu, updN_same, HCN.out, ← HE.out]
                        simp only [intOf]
                        omega
              · go_quiet (fail)
                have f5' := frozen_row HFW.out.next u
                go_wp2_with fail
                go_roundw
                case rel =>
                  have hk := skip hN hu HST.out HSE.out HE.out.symm hnx (.inr (.inl (by unfold LE; rw [HOWN.out]; exact hle)))
                  exact ⟨s, l1, updN n1 u (e + 1), rfl, hsm, (HFW.out.drew _).incNext hd hu e, (HSA.out.drew _).setNext _ _, hk.1, hk.2⟩
                case measure =>
                  rw [FW.cellN ((HFW.out.drew _).incNext hd hu e) hu, updN_same, HCN.out, ← HE.out]
                  omega
            · have hd3 : decide (0 < l1 e) = false := by simp [hl0]
              go_quiet (fail)
              have f5' := frozen_row HFW.out.next u
              go_wp2_with fail
              go_roundw
              case rel =>
                have hk := skip hN hu HST.out HSE.out HE.out.symm hnx (.inl (by omega))
                exact ⟨s, l1, updN n1 u (e + 1), rfl, hsm, (HFW.out.drew _).incNext hd hu e, (HSA.out.drew _).setNext _ _, hk.1, hk.2⟩
              case measure =>
                rw [FW.cellN ((HFW.out.drew _).incNext hd hu e) hu, updN_same, HCN.out, ← HE.out]
                omega
          · have hd1 : decide (s < most) = true := by simp [hsmost]
            have hd2 : ¬ ((n1 u : Nat) : Int) < (N.first (u + 1) : Int) := by omega
            go_wp2_with fail
            go_quiet (fail)
            go_wp2_with fail
            go_ret
            refine ⟨s, l1, n1, rfl, HFW.out.drew _, HSA.out.drew _, HST.out, HSE.out, hsm, fun _ => dead_of hN HS.out fun e he ho => ?_⟩
            have h1 := hN.own_lo e he
            have h2 := hN.own_hi e he
            rw [ho] at h1 h2
            exact HST.out.done u e hu h1 (by omega)
        · have hd1 : decide (s < most) = false := by simp [hsmost]
          go_wp2_with fail
          go_quiet (fail)
          go_wp2_with fail
          go_ret
          exact ⟨s, l1, n1, rfl, HFW.out.drew _, HSA.out.drew _, HST.out, HSE.out, hsm, fun h => by omega⟩
end Go.Proofs.Ybulkdxng.D
