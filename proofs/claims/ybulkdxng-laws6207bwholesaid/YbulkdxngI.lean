import Derived.Test.YbulkdxngX
import Derived.Test.YbulkdxngY
import Derived.Test.YbulkdxngZ
import Derived.Lib.RabinKarpLaws
namespace Go.Proofs.Ybulkdxng.D
open Go.RowKit
set_option linter.unusedVariables false

/-! ### Shifts -/
theorem pow12 {n : Nat} (hn : n ≤ 12) : 2 ^ n ≤ 4096 := Nat.pow_le_pow_right (n := 2) (by decide) hn
theorem wrap_pow {n P : Nat} (hn : n ≤ 12) (hP : 2 ^ n = P) : IntKind.i64.wrap ((2 : Int) ^ n) = (P : Int) := by
  have h := pow12 hn
  have h2 : ((2 ^ n : Nat) : Int) = (2 : Int) ^ n := by simp
  rw [← h2]
  rw [hP] at *
  exact IntWalk.i64_in _ (by omega)
theorem wrap64_pow {n P : Nat} (hn : n ≤ 12) (hP : 2 ^ n = P) : wrap64 ((2 : Int) ^ n) = (P : Int) := by
  rw [← IntWalk.i64_left]
  exact wrap_pow hn hP
theorem div_pow {x j M : Nat} (h : x / 2 ^ j = M) : (x : Int) / (2 : Int) ^ j = (M : Int) := by
  rw [← h]
  simp
theorem div_pow_min {x j M : Nat} (hj : j ≤ 12) (h : x / 2 ^ j = M) : (x : Int) / (2 : Int) ^ (min j 64) = (M : Int) := by
  rw [Nat.min_eq_left (by omega)]
  exact div_pow h
theorem and_bit {x B : Nat} (hx : x ≤ 4096) (h : x % 2 = B) : bits BinOp.and IntKind.i64 (x : Int) 1 = (B : Int) := by
  rw [Go.Proofs.and_one x (by omega), h]

/-! ### The input -/
def InI (w : World) (x : Option Addr) (n : Nat) (f : Nat → Int) : Prop := n = 0 ∨ ∃ b o, x = some ⟨b, o, none⟩ ∧ b < w.heap.size ∧ ∀ i, i < n → w.cell? ⟨b, o + i, none⟩ = some (.int .i64 (f i))
def InU (w : World) (x : Option Addr) (n : Nat) (f : Nat → Int) : Prop := n = 0 ∨ ∃ b o, x = some ⟨b, o, none⟩ ∧ b < w.heap.size ∧ ∀ i, i < n → w.cell? ⟨b, o + i, none⟩ = some (.int .u8 (f i)) ∧ 0 ≤ f i ∧ f i ≤ 255
def InK (w : World) (x : Option Addr) (n : Nat) (kx : Nat → Option Addr) (kn kc : Nat → Nat) (kb : Nat → Nat → Int) : Prop :=
  n = 0 ∨ ∃ b o, x = some ⟨b, o, none⟩ ∧ b < w.heap.size ∧ ∀ j, j < n → w.cell? ⟨b, o + j, none⟩ = some (.slice (kx j) (kn j) (kc j)) ∧ InU w (kx j) (kn j) (kb j)
theorem InI.at {w wr : World} {x : Option Addr} {n : Nat} {f : Nat → Int} (h : InI w x n f) (hb : Below w.heap.size w wr) {i : Nat} (hi : i < n) : ∃ b o, x = some ⟨b, o, none⟩ ∧ b < w.heap.size ∧ wr.cell? ⟨b, o + i, none⟩ = some (.int .i64 (f i)) := by
  rcases h with h | ⟨b, o, h1, h2, h3⟩
  · omega
  · exact ⟨b, o, h1, h2, by rw [hb.cell (p := ⟨b, o + i, none⟩) h2]; exact h3 i hi⟩
theorem InU.at {w wr : World} {x : Option Addr} {n : Nat} {f : Nat → Int} (h : InU w x n f) (hb : Below w.heap.size w wr) {i : Nat} (hi : i < n) : ∃ b o, x = some ⟨b, o, none⟩ ∧ b < w.heap.size ∧ wr.cell? ⟨b, o + i, none⟩ = some (.int .u8 (f i)) ∧ 0 ≤ f i ∧ f i ≤ 255 := by
  rcases h with h | ⟨b, o, h1, h2, h3⟩
  · omega
  · exact ⟨b, o, h1, h2, by rw [hb.cell (p := ⟨b, o + i, none⟩) h2]; exact (h3 i hi).1, (h3 i hi).2⟩
theorem InK.at {w wr : World} {x : Option Addr} {n : Nat} {kx : Nat → Option Addr} {kn kc : Nat → Nat} {kb : Nat → Nat → Int} (h : InK w x n kx kn kc kb) (hb : Below w.heap.size w wr) {j : Nat} (hj : j < n) : ∃ b o, x = some ⟨b, o, none⟩ ∧ b < w.heap.size ∧ wr.cell? ⟨b, o + j, none⟩ = some (.slice (kx j) (kn j) (kc j)) ∧ InU w (kx j) (kn j) (kb j) := by
  rcases h with h | ⟨b, o, h1, h2, h3⟩
  · omega
  · exact ⟨b, o, h1, h2, by rw [hb.cell (p := ⟨b, o + j, none⟩) h2]; exact (h3 j hj).1, (h3 j hj).2⟩
structure DIn (D : Dt) (n0 n1 n2 : Nat) (f0 f2 : Nat → Int) (kn : Nat → Nat) (kb : Nat → Nat → Int) : Prop where
  n : D.n = min n0 12
  k : D.k = min n2 64
  w : ∀ j, j < D.n → D.w j = (f0 j).tmod 1099511627776
  c : ∀ i, i < D.k → D.c i = (f2 i).tmod 1099511627776
  m : ∀ j, j < D.n → D.m j = if j < n1 ∧ 0 < D.k then min (kn j) 32 else 0
  kd : ∀ j t, j < D.n → t < D.m j → ((D.kd j t : Nat) : Int) = (kb j t).tmod (D.k : Int)
def mkD (n0 n1 n2 : Nat) (f0 f2 : Nat → Int) (kn : Nat → Nat) (kb : Nat → Nat → Int) : Dt :=
  { n := min n0 12, k := min n2 64, w := fun j => (f0 j).tmod 1099511627776, m := fun j => if j < n1 ∧ 0 < min n2 64 then min (kn j) 32 else 0, kd := fun j t => ((kb j t).tmod (min n2 64 : Nat)).toNat, c := fun i => (f2 i).tmod 1099511627776 }
theorem tmod40 (x : Int) : -1099511627776 ≤ x.tmod 1099511627776 ∧ x.tmod 1099511627776 ≤ 1099511627776 := by
  have h1 := Int.tmod_lt_of_pos x (show (0 : Int) < 1099511627776 by decide)
  have h2 := Int.tmod_lt_of_pos (-x) (show (0 : Int) < 1099511627776 by decide)
  rw [Int.neg_tmod] at h2
  omega
theorem mkD_spec {n0 n1 n2 : Nat} {f0 f2 : Nat → Int} {kn : Nat → Nat} {kb : Nat → Nat → Int} (hk : ∀ j t, j < n1 → t < kn j → 0 ≤ kb j t) : (mkD n0 n1 n2 f0 f2 kn kb).OK ∧ DIn (mkD n0 n1 n2 f0 f2 kn kb) n0 n1 n2 f0 f2 kn kb := by
  have key : ∀ j t, t < (if j < n1 ∧ 0 < min n2 64 then min (kn j) 32 else 0) → 0 < min n2 64 ∧ 0 ≤ kb j t := fun j t ht => by
    split at ht
    · rename_i h
      exact ⟨h.2, hk j t h.1 (by omega)⟩
    · omega
  refine ⟨⟨?_, ?_, ?_, ?_, ?_, ?_⟩, ⟨rfl, rfl, fun _ _ => rfl, fun _ _ => rfl, fun _ _ => rfl, ?_⟩⟩
  · show min n0 12 ≤ 12; omega
  · show min n2 64 ≤ 64; omega
  · exact fun j _ => tmod40 _
  · exact fun j _ => tmod40 _
  · intro j _
    show (if j < n1 ∧ 0 < min n2 64 then min (kn j) 32 else 0) ≤ 32
    split <;> omega
  · intro j t _ ht
    obtain ⟨h1, h2⟩ := key j t ht
    show ((kb j t).tmod (min n2 64 : Nat)).toNat < min n2 64
    have h3 := Int.tmod_lt_of_pos (kb j t) (show (0 : Int) < ((min n2 64 : Nat) : Int) by omega)
    have h4 := Int.tmod_nonneg ((min n2 64 : Nat) : Int) h2
    omega
  · intro j t _ ht
    obtain ⟨h1, h2⟩ := key j t ht
    show ((((kb j t).tmod (min n2 64 : Nat)).toNat : Nat) : Int) = (kb j t).tmod ((min n2 64 : Nat) : Int)
    have h4 := Int.tmod_nonneg ((min n2 64 : Nat) : Int) h2
    omega

/-! ### Rows of any values -/
def rowV (n : Nat) (f : Nat → Value) : Array Value := ((List.range n).map f).toArray
theorem size_rowV (n : Nat) (f : Nat → Value) : (rowV n f).size = n := by simp [rowV]
theorem get_rowV {n i : Nat} (f : Nat → Value) (h : i < n) : (rowV n f)[i]? = some (f i) := by simp [rowV, h]
theorem rowV_congr {n : Nat} {f g : Nat → Value} (h : ∀ i, i < n → f i = g i) : rowV n f = rowV n g := by
  unfold rowV
  congr 1
  exact List.map_congr_left fun i hi => by rw [h i (List.mem_range.1 hi)]
theorem set_rowV {n i : Nat} (f : Nat → Value) (z : Value) (h : i < n) : (rowV n f).setIfInBounds i z = rowV n (fun j => if j = i then z else f j) := by
  apply Array.ext_getElem?
  intro j
  rw [Array.getElem?_setIfInBounds]
  by_cases e : i = j
  · subst e
    rw [if_pos rfl, if_pos (by rw [size_rowV]; exact h), get_rowV _ h, if_pos rfl]
  · rw [if_neg e]
    by_cases hj : j < n
    · rw [get_rowV _ hj, get_rowV _ hj, if_neg (fun h => e h.symm)]
    · rw [Array.getElem?_eq_none (by rw [size_rowV]; omega), Array.getElem?_eq_none (by rw [size_rowV]; omega)]
theorem cell_rowV {w : World} {b n i : Nat} {f : Nat → Value} {t : TypeId} (h : w.heap[b]? = some (.cells (rowV n f) t (0, 0))) (hi : i < n) : w.cell? ⟨b, i, none⟩ = some (f i) := by
  simp [World.cell?, h, get_rowV _ hi]
theorem made_rowV (z : Value) (hz : z.cells = #[z]) (n : Nat) : madeCells z.cells (n * 1) = rowV n fun _ => z := by
  apply Array.ext_getElem?
  intro i
  by_cases h : i < n
  · rw [get_rowV _ h]
    simp [madeCells, hz, h, Nat.mod_one]
  · rw [Array.getElem?_eq_none (by simp [size_madeCells]; omega), Array.getElem?_eq_none (by rw [size_rowV]; omega)]
abbrev rowS (n : Nat) (cx : Nat → Option Addr) (cm : Nat → Nat) : Array Value := rowV n fun j => .slice (cx j) (cm j) (cm j)
abbrev rowB (n : Nat) (g : Nat → Bool) : Array Value := rowV n fun i => .bool (g i)

/-! ### The first rows: widths, counts -/
structure W1 (w : World) (n : Nat) (g : Nat → Int) (wr : World) : Prop where
  below : Below w.heap.size w wr
  size : wr.heap.size = w.heap.size + 1
  ws : wr.heap[w.heap.size]? = some (.cells (row n g) 2 (0, 0))
structure W2 (w : World) (n k : Nat) (g h : Nat → Int) (wr : World) : Prop where
  below : Below w.heap.size w wr
  size : wr.heap.size = w.heap.size + 2
  ws : wr.heap[w.heap.size]? = some (.cells (row n g) 2 (0, 0))
  cs : wr.heap[w.heap.size + 1]? = some (.cells (row k h) 2 (0, 0))
section
variable {w wr : World} {n k : Nat} {g h : Nat → Int}
theorem W1.start (w : World) (n : Nat) : W1 w n (fun _ => 0) (w.alloc (.cells (row n fun _ => 0) 2)) := ⟨(Below.refl _ _).alloc (Nat.le_refl _) _, by simp, heap_alloc_new _ _⟩
theorem W1.congr {g' : Nat → Int} (h : W1 w n g wr) (e : ∀ i, i < n → g i = g' i) : W1 w n g' wr := ⟨h.below, h.size, by rw [← row_congr e]; exact h.ws⟩
theorem W1.set (h : W1 w n g wr) {i : Nat} (hi : i < n) (z : Int) : W1 w n (upd g i z) (wr.setCell ⟨w.heap.size, i, none⟩ (.int .i64 z)) :=
  ⟨h.below.setCell (p := ⟨w.heap.size, i, none⟩) (Nat.le_refl _) _, by simp [World.setCell]; exact h.size, by rw [heap_setCell h.ws, set_row _ _ hi]⟩
theorem W1.two (h : W1 w n g wr) (k : Nat) : W2 w n k g (fun _ => 0) (wr.alloc (.cells (row k fun _ => 0) 2)) := by
  have hs := h.size
  exact ⟨h.below.alloc (by omega) _, by simp; omega, by rw [Below.heap_alloc _ _ _ (by omega)]; exact h.ws, by rw [← hs]; exact heap_alloc_new _ _⟩
theorem W2.congr {h' : Nat → Int} (H : W2 w n k g h wr) (e : ∀ i, i < k → h i = h' i) : W2 w n k g h' wr := ⟨H.below, H.size, H.ws, by rw [← row_congr e]; exact H.cs⟩
theorem W2.set (H : W2 w n k g h wr) {i : Nat} (hi : i < k) (z : Int) : W2 w n k g (upd h i z) (wr.setCell ⟨w.heap.size + 1, i, none⟩ (.int .i64 z)) :=
  ⟨H.below.setCell (p := ⟨w.heap.size + 1, i, none⟩) (by simp) _, by simp [World.setCell]; exact H.size, by rw [Below.heap_setCell _ _ _ _ (by simp)]; exact H.ws, by rw [heap_setCell H.cs, set_row _ _ hi]⟩
end
theorem upto_step (f : Nat → Int) (j i : Nat) : upd (fun x => if x < j then f x else 0) j (f j) i = if i < j + 1 then f i else 0 := by
  by_cases e : i = j
  · subst e; rw [upd_same, if_pos (by omega)]
  · rw [upd_ne _ _ e]
    by_cases h : i < j
    · rw [if_pos h, if_pos (by omega)]
    · rw [if_neg h, if_neg (by omega)]
theorem uptoN_step (f : Nat → Nat) (j i : Nat) : updN (fun x => if x < j then f x else 0) j (f j) i = if i < j + 1 then f i else 0 := by
  by_cases e : i = j
  · subst e; rw [updN_same, if_pos (by omega)]
  · rw [updN_ne _ _ e]
    by_cases h : i < j
    · rw [if_pos h, if_pos (by omega)]
    · rw [if_neg h, if_neg (by omega)]

/-! ### The kinds -/
structure KW (w : World) (D : Dt) (j top : Nat) (cx : Nat → Option Addr) (cm : Nat → Nat) (wr : World) : Prop where
  below : Below w.heap.size w wr
  low : w.heap.size + 3 ≤ top
  size : top ≤ wr.heap.size
  ws : wr.heap[w.heap.size]? = some (.cells (row D.n D.w) 2 (0, 0))
  cs : wr.heap[w.heap.size + 1]? = some (.cells (row D.k D.c) 2 (0, 0))
  ks : wr.heap[w.heap.size + 2]? = some (.cells (rowS D.n cx cm) 26 (0, 0))
  done : ∀ x, x < j → cm x = D.m x ∧ (D.m x = 0 ∨ ∃ b, cx x = some ⟨b, 0, none⟩ ∧ w.heap.size + 3 ≤ b ∧ b < top ∧ ∀ t, t < D.m x → wr.cell? ⟨b, t, none⟩ = some (.int .i64 (D.kd x t : Int)))
  todo : ∀ x, j < x → cx x = none ∧ cm x = 0
section
variable {w wr : World} {D : Dt} {j top : Nat} {cx : Nat → Option Addr} {cm : Nat → Nat}
theorem KW.start (h : W2 w D.n D.k D.w D.c wr) : KW w D 0 (wr.alloc (.cells (rowS D.n (fun _ => none) fun _ => 0) 26)).heap.size (fun _ => none) (fun _ => 0) (wr.alloc (.cells (rowS D.n (fun _ => none) fun _ => 0) 26)) := by
  have hs := h.size
  exact ⟨h.below.alloc (by omega) _, by simp; omega, Nat.le_refl _, by rw [Below.heap_alloc _ _ _ (by omega)]; exact h.ws, by rw [Below.heap_alloc _ _ _ (by omega)]; exact h.cs, by rw [← hs]; exact heap_alloc_new _ _, fun x hx => by omega, fun x _ => ⟨rfl, rfl⟩⟩
theorem KW.keep {wr' : World} (h : KW w D j top cx cm wr) (hb : Below w.heap.size w wr') (hs : top ≤ wr'.heap.size) (hk : ∀ i, i < top → wr'.heap[i]? = wr.heap[i]?) : KW w D j top cx cm wr' := by
  have hl := h.low
  refine ⟨hb, hl, hs, by rw [hk _ (by omega)]; exact h.ws, by rw [hk _ (by omega)]; exact h.cs, by rw [hk _ (by omega)]; exact h.ks, fun x hx => ?_, h.todo⟩
  obtain ⟨h1, h2⟩ := h.done x hx
  refine ⟨h1, ?_⟩
  rcases h2 with h2 | ⟨b, k1, k2, k3, k4⟩
  · exact .inl h2
  · exact .inr ⟨b, k1, k2, k3, fun t ht => by rw [World.cell?_of_block (a := ⟨b, t, none⟩) (hk b k3)]; exact k4 t ht⟩
theorem KW.set (h : KW w D j top cx cm wr) {x : Nat} (hx : top ≤ x) (o : Nat) (v : Value) : KW w D j top cx cm (wr.setCell ⟨x, o, none⟩ v) := by
  have hl := h.low
  exact h.keep (h.below.setCell (p := ⟨x, o, none⟩) (by show w.heap.size ≤ x; omega) _) (by simp [World.setCell]; exact h.size) fun i hi => Below.heap_setCell _ _ _ _ (by show i ≠ x; omega)
theorem KW.drew (h : KW w D j top cx cm wr) : KW w D j top cx cm wr.drew := h.keep h.below.drew h.size fun _ _ => rfl
/-- a contract without kinds -/
theorem KW.pass (h : KW w D j top cx cm wr) (hm : D.m j = 0) (hc : cm j = 0) : KW w D (j + 1) top cx cm wr := by
  refine ⟨h.below, h.low, h.size, h.ws, h.cs, h.ks, fun x hx => ?_, fun x hx => h.todo x (by omega)⟩
  by_cases e : x = j
  · subst e; exact ⟨by rw [hc, hm], .inl hm⟩
  · exact h.done x (by omega)
/-- a contract's row is made -/
theorem KW.make (h : KW w D j wr.heap.size cx cm wr) (hj : j < D.n) (m : Nat) (M : Obj) :
    KW w D j wr.heap.size (fun x => if x = j then some ⟨wr.heap.size, 0, none⟩ else cx x) (updN cm j m) ((wr.setCell ⟨w.heap.size + 2, j, none⟩ (.slice (some ⟨wr.heap.size, 0, none⟩) m m)).alloc M) ∧
    ((wr.setCell ⟨w.heap.size + 2, j, none⟩ (.slice (some ⟨wr.heap.size, 0, none⟩) m m)).alloc M).heap[wr.heap.size]? = some M := by
  have hl := h.low
  have hsz : (wr.setCell ⟨w.heap.size + 2, j, none⟩ (.slice (some ⟨wr.heap.size, 0, none⟩) m m)).heap.size = wr.heap.size := by simp [World.setCell]
  have hb : Below w.heap.size w ((wr.setCell ⟨w.heap.size + 2, j, none⟩ (.slice (some ⟨wr.heap.size, 0, none⟩) m m)).alloc M) := (h.below.setCell (p := ⟨w.heap.size + 2, j, none⟩) (by simp) _).alloc (by rw [hsz]; omega) _
  have hk : ∀ i, i < wr.heap.size → i ≠ w.heap.size + 2 → ((wr.setCell ⟨w.heap.size + 2, j, none⟩ (.slice (some ⟨wr.heap.size, 0, none⟩) m m)).alloc M).heap[i]? = wr.heap[i]? := fun i h1 h2 => by
    rw [Below.heap_alloc _ _ _ (by rw [hsz]; exact h1), Below.heap_setCell _ _ _ _ h2]
  refine ⟨⟨hb, hl, by rw [World.size_alloc, hsz]; omega, by rw [hk _ (by omega) (by omega)]; exact h.ws, by rw [hk _ (by omega) (by omega)]; exact h.cs, ?_, fun x hx => ?_, fun x hx => ?_⟩, ?_⟩
  · rw [Below.heap_alloc _ _ _ (by rw [hsz]; omega), heap_setCell h.ks, set_rowV _ _ hj]
    congr 2
    refine rowV_congr fun i _ => ?_
    show (if i = j then _ else _) = Value.slice (if i = j then _ else cx i) (updN cm j m i) (updN cm j m i)
    by_cases e : i = j
    · subst e; rw [if_pos rfl, if_pos rfl, updN_same]
    · rw [if_neg e, if_neg e, updN_ne _ _ e]
  · obtain ⟨h1, h2⟩ := h.done x hx
    have e : x ≠ j := by omega
    refine ⟨by rw [updN_ne _ _ e]; exact h1, ?_⟩
    rcases h2 with h2 | ⟨b, k1, k2, k3, k4⟩
    · exact .inl h2
    · exact .inr ⟨b, by show (if x = j then _ else cx x) = _; rw [if_neg e]; exact k1, k2, k3, fun t ht => by rw [World.cell?_of_block (a := ⟨b, t, none⟩) (hk b k3 (by omega))]; exact k4 t ht⟩
  · have e : x ≠ j := by omega
    exact ⟨by show (if x = j then _ else cx x) = _; rw [if_neg e]; exact (h.todo x hx).1, by rw [updN_ne _ _ e]; exact (h.todo x hx).2⟩
  · have hh := heap_alloc_new (wr.setCell ⟨w.heap.size + 2, j, none⟩ (.slice (some ⟨wr.heap.size, 0, none⟩) m m)) M
    rwa [hsz] at hh
/-- a contract's row is filled -/
theorem KW.fill {B : Nat} (h : KW w D j B cx cm wr) (hc : cx j = some ⟨B, 0, none⟩) (hm : cm j = D.m j) (hB : wr.heap[B]? = some (.cells (rowN (D.m j) (D.kd j)) 3 (0, 0))) : KW w D (j + 1) wr.heap.size cx cm wr := by
  have hl := h.low
  have hlt : B < wr.heap.size := (Array.getElem?_eq_some_iff.1 hB).1
  refine ⟨h.below, by omega, Nat.le_refl _, h.ws, h.cs, h.ks, fun x hx => ?_, fun x hx => h.todo x (by omega)⟩
  by_cases e : x = j
  · subst e
    exact ⟨hm, .inr ⟨B, hc, hl, hlt, fun t ht => cell_rowN hB ht⟩⟩
  · obtain ⟨h1, h2⟩ := h.done x (by omega)
    refine ⟨h1, ?_⟩
    rcases h2 with h2 | ⟨b, k1, k2, k3, k4⟩
    · exact .inl h2
    · exact .inr ⟨b, k1, k2, by omega, k4⟩
theorem KW.nin (h : KW w D D.n top cx cm wr) : NIn D w.heap.size (w.heap.size + 2) (w.heap.size + 1) cx D.m wr := by
  have hl := h.low
  have hs := h.size
  refine ⟨by omega, by omega, by omega, fun j hj => cell_row h.ws hj, fun j hj => ?_, fun j hj => ?_, fun i hi => cell_row h.cs hi⟩
  · rw [cell_rowV h.ks hj, (h.done j hj).1]
  · rcases (h.done j hj).2 with h2 | ⟨b, k1, k2, k3, k4⟩
    · exact .inl h2
    · exact .inr ⟨b, k1, by omega, k4⟩
end

/-! ### What is held behind maximise -/
/-- numbers that lie below top -/
def Rg (top : Nat) (w : World) (x : Option Addr) (n : Nat) (f : Nat → Int) : Prop := n = 0 ∨ ∃ g, x = some ⟨g, 0, none⟩ ∧ g < top ∧ ∀ i, i < n → w.cell? ⟨g, i, none⟩ = some (.int .i64 (f i))
theorem Rg.keep {top : Nat} {w w' : World} {x : Option Addr} {n : Nat} {f : Nat → Int} (h : Rg top w x n f) (hk : ∀ i, i < top → w'.heap[i]? = w.heap[i]?) : Rg top w' x n f := by
  rcases h with h | ⟨g, h1, h2, h3⟩
  · exact .inl h
  · exact .inr ⟨g, h1, h2, fun i hi => by rw [World.cell?_of_block (a := ⟨g, i, none⟩) (hk g h2)]; exact h3 i hi⟩
theorem Rg.rd {top : Nat} {w : World} {x : Option Addr} {n : Nat} {f : Nat → Int} (h : Rg top w x n f) : Rd w x n f := by
  rcases h with h | ⟨g, h1, _, h2⟩
  · exact .inl h
  · exact .inr ⟨g, h1, h2⟩
theorem Rg.at {top : Nat} {w : World} {x : Option Addr} {n : Nat} {f : Nat → Int} (h : Rg top w x n f) {i : Nat} (hi : i < n) : ∃ g, x = some ⟨g, 0, none⟩ ∧ ∀ i, i < n → w.cell? ⟨g, i, none⟩ = some (.int .i64 (f i)) := by
  rcases h with h | ⟨g, h1, h2, h3⟩
  · omega
  · exact ⟨g, h1, h3⟩
/-- a copy that lies at or above lo, behind a call that keeps what is below hi but the flow's blocks -/
theorem Cp.kept {B : Blk} {lo hi : Nat} {w w' : World} {x : Option Addr} {n : Nat} {f : Nat → Int} (h : Cp lo w x n f) (hB : B.Lt lo) (hw : w.heap.size ≤ hi) (hk : ∀ k, k < hi → k ≠ B.F → k ≠ B.bv → k ≠ B.bl → k ≠ B.bn → w'.heap[k]? = w.heap[k]?) : Rg hi w' x n f := by
  rcases h with h | ⟨g, h1, h2, h3, h4⟩
  · exact .inl h
  · have := hB.F
    have := hB.bv
    have := hB.bl
    have := hB.bn
    exact .inr ⟨g, h1, by omega, fun i hi' => by rw [World.cell?_of_block (a := ⟨g, i, none⟩) (hk g (by omega) (by omega) (by omega) (by omega) (by omega))]; exact h4 i hi'⟩
theorem Cp.below {lo : Nat} {w w' : World} {x : Option Addr} {n : Nat} {f : Nat → Int} (h : Cp lo w x n f) (hb : Below w.heap.size w w') : Cp lo w' x n f := by
  rcases h with h | ⟨g, h1, h2, h3, h4⟩
  · exact .inl h
  · exact .inr ⟨g, h1, h2, Nat.lt_of_lt_of_le h3 hb.size, fun i hi => by rw [World.cell?_of_block (a := ⟨g, i, none⟩) (hb.block g h3)]; exact h4 i hi⟩
theorem Cp.low {lo lo' : Nat} {w : World} {x : Option Addr} {n : Nat} {f : Nat → Int} (h : Cp lo w x n f) (hl : lo' ≤ lo) : Cp lo' w x n f := by
  rcases h with h | ⟨g, h1, h2, h3⟩
  · exact .inl h
  · exact .inr ⟨g, h1, by omega, h3⟩

theorem Rg.mono {top top' : Nat} {w : World} {x : Option Addr} {n : Nat} {f : Nat → Int} (h : Rg top w x n f) (hl : top ≤ top') : Rg top' w x n f := by
  rcases h with h | ⟨g, h1, h2, h3⟩
  · exact .inl h
  · exact .inr ⟨g, h1, by omega, h3⟩
theorem Blk.Lt.mono {B : Blk} {a b : Nat} (h : B.Lt a) (hl : a ≤ b) : B.Lt b := by
  have := h.F
  have := h.bf
  have := h.bt
  have := h.bl
  have := h.bb
  have := h.bv
  have := h.bn
  constructor <;> omega
theorem below_max {B : Blk} {n : Nat} {w w' w'' : World} (h : Below n w w') (hk : KeepM B w'.heap.size w' w'') (hn : n ≤ w'.heap.size) (hge : n ≤ B.F ∧ n ≤ B.bf ∧ n ≤ B.bt ∧ n ≤ B.bl ∧ n ≤ B.bb ∧ n ≤ B.bv ∧ n ≤ B.bn) : Below n w w'' :=
  ⟨hk.os.trans h.os, hk.tape.trans h.tape, hk.output.trans h.output, Nat.le_trans h.size hk.size, fun i hi => (hk.block i (by omega) (by omega) (by omega) (by omega) (by omega)).trans (h.block i hi)⟩
theorem below_then {n m : Nat} {w w' w'' : World} (h : Below n w w') (hk : Below m w' w'') (hn : n ≤ m) : Below n w w'' :=
  ⟨hk.os.trans h.os, hk.tape.trans h.tape, hk.output.trans h.output, Nat.le_trans h.size hk.size, fun i hi => (hk.block i (by omega)).trans (h.block i hi)⟩
theorem FW.plain {B : Blk} {V : Nat} {A : List Ad} {dst back : Nat → Nat} {left lev l : Nat → Int} {nx : Nat → Nat} {q : Value} {w : World} (h : FW B (netOf V A dst back left) lev l nx q w) :
    w.cell? ⟨B.F, 0, none⟩ = some (.slice (some ⟨B.bf, 0, none⟩) (V + 1) (V + 1)) ∧ w.cell? ⟨B.F, 1, none⟩ = some (.slice (some ⟨B.bt, 0, none⟩) (pre A V) (pre A V)) ∧ w.cell? ⟨B.F, 2, none⟩ = some (.slice (some ⟨B.bl, 0, none⟩) (pre A V) (pre A V)) ∧ w.cell? ⟨B.F, 3, none⟩ = some (.slice (some ⟨B.bb, 0, none⟩) (pre A V) (pre A V)) ∧ w.cell? ⟨B.F, 4, none⟩ = some (.slice (some ⟨B.bv, 0, none⟩) V V) :=
  ⟨h.cells.1, h.cells.2.1, h.cells.2.2.1, h.cells.2.2.2.1, h.cells.2.2.2.2.1⟩

/-! ### The marks -/
structure PB (wm : World) (k : Nat) (g : Nat → Bool) (wr : World) : Prop where
  below : Below wm.heap.size wm wr
  row : wr.heap[wm.heap.size]? = some (.cells (rowB k g) 4 (0, 0))
section
variable {wm wr : World} {k : Nat} {g : Nat → Bool}
theorem PB.start (wm : World) (k : Nat) : PB wm k (fun _ => false) (wm.alloc (.cells (rowB k fun _ => false) 4)) := ⟨(Below.refl _ _).alloc (Nat.le_refl _) _, heap_alloc_new _ _⟩
theorem PB.congr {g' : Nat → Bool} (h : PB wm k g wr) (e : ∀ i, i < k → g i = g' i) : PB wm k g' wr := ⟨h.below, by
    have hr : rowB k g = rowB k g' := rowV_congr fun i hi => by rw [e i hi]
    rw [← hr]; exact h.row⟩
theorem PB.set (h : PB wm k g wr) {i : Nat} (hi : i < k) (z : Bool) : PB wm k (fun x => if x = i then z else g x) (wr.setCell ⟨wm.heap.size, i, none⟩ (.bool z)) := by
  refine ⟨h.below.setCell (p := ⟨wm.heap.size, i, none⟩) (Nat.le_refl _) _, ?_⟩
  rw [heap_setCell h.row, set_rowV _ _ hi]
  congr 2
  refine rowV_congr fun x _ => ?_
  show (if x = i then Value.bool z else Value.bool (g x)) = Value.bool (if x = i then z else g x)
  split <;> rfl
end
theorem clear_step (g : Nat → Bool) (x y : Nat) : (if y = x then false else if y < x then false else g y) = if y < x + 1 then false else g y := by
  by_cases e : y = x
  · subst e; rw [if_pos rfl, if_pos (by omega)]
  · rw [if_neg e]
    by_cases h : y < x
    · rw [if_pos h, if_pos (by omega)]
    · rw [if_neg h, if_neg (by omega)]
theorem has_step (D : Dt) (mask j t y : Nat) : (if y = D.kd j t then true else (inB D mask y j || hasK D j y t)) = (inB D mask y j || hasK D j y (t + 1)) := by
  simp only [hasK]
  by_cases e : y = D.kd j t
  · subst e; simp
  · rw [if_neg e, decide_eq_false (fun h => e h.symm)]; simp
theorem inB_one (D : Dt) {mask j : Nat} (h : bit mask j = true) (y : Nat) : (inB D mask y j || hasK D j y (D.m j)) = inB D mask y (j + 1) := by
  simp [inB, h]
theorem inB_not (D : Dt) {mask j : Nat} (h : bit mask j = false) (y : Nat) : inB D mask y j = inB D mask y (j + 1) := by
  simp [inB, h]
theorem cutW_one (D : Dt) {mask j : Nat} (h : bit mask j = true) : cutW D mask (j + 1) = cutW D mask j := by
  show cutW D mask j + (if bit mask j = true then 0 else max (D.w j) 0) = _
  rw [if_pos h]; omega
theorem cutW_not (D : Dt) {mask j : Nat} (h : bit mask j = false) : cutW D mask (j + 1) = cutW D mask j + max (D.w j) 0 := by
  show cutW D mask j + (if bit mask j = true then 0 else max (D.w j) 0) = _
  rw [h]; rfl
theorem cutC_one (D : Dt) {mask i : Nat} (h : inB D mask i D.n = true) : cutC D mask (i + 1) = cutC D mask i + max (D.c i) 0 := by
  show cutC D mask i + (if inB D mask i D.n = true then max (D.c i) 0 else 0) = _
  rw [if_pos h]
theorem cutC_not (D : Dt) {mask i : Nat} (h : inB D mask i D.n = false) : cutC D mask (i + 1) = cutC D mask i := by
  show cutC D mask i + (if inB D mask i D.n = true then max (D.c i) 0 else 0) = _
  rw [h]; simp
def BestI (D : Dt) (mask : Nat) (best : Int) : Prop := (best ≤ 9223372036854775807) ∧ (∀ m, m < mask → best ≤ cutM D m) ∧ (best = 9223372036854775807 ∨ ∃ m, m < mask ∧ best = cutM D m)
theorem BestI.start (D : Dt) : BestI D 0 9223372036854775807 := ⟨Int.le_refl _, fun m h => by omega, .inl rfl⟩
theorem BestI.keep {D : Dt} {mask : Nat} {best : Int} (h : BestI D mask best) (hc : best ≤ cutM D mask) : BestI D (mask + 1) best := by
  refine ⟨h.1, fun m hm => ?_, ?_⟩
  · by_cases e : m = mask
    · subst e; exact hc
    · exact h.2.1 m (by omega)
  · rcases h.2.2 with h1 | ⟨m, h1, h2⟩
    · exact .inl h1
    · exact .inr ⟨m, by omega, h2⟩
theorem BestI.take {D : Dt} {mask : Nat} {best : Int} (h : BestI D mask best) (hc : cutM D mask < best) : BestI D (mask + 1) (cutM D mask) := by
  refine ⟨by have := h.1; omega, fun m hm => ?_, .inr ⟨mask, by omega, rfl⟩⟩
  by_cases e : m = mask
  · subst e; exact Int.le_refl _
  · have := h.2.1 m (by omega); omega
theorem BestI.eq {D : Dt} {s best : Int} (h : BestI D (2 ^ D.n) best) (h1 : ∀ m, s ≤ cutM D m) (h2 : ∃ m, m < 2 ^ D.n ∧ cutM D m = s) (h3 : s ≤ 1000000000000000) : best = s := by
  obtain ⟨m, hm, e⟩ := h2
  have a := h.2.1 m hm
  rcases h.2.2 with h4 | ⟨m', h4, h5⟩
  · omega
  · have := h1 m'; omega

/-! ### Sums that may wrap -/
theorem wrap_step {z d X : Int} (h : ∃ q : Int, z = X - q * 18446744073709551616) : ∃ q : Int, IntKind.i64.wrap (z + d) = X + d - q * 18446744073709551616 := by
  obtain ⟨q, h⟩ := h
  rw [IntKind.wrap_i64]
  refine ⟨q + (z + d + 9223372036854775808) / 18446744073709551616, ?_⟩
  omega
theorem wrap_step64 {z d X : Int} (h : ∃ q : Int, z = X - q * 18446744073709551616) : ∃ q : Int, wrap64 (z + d) = X + d - q * 18446744073709551616 := by
  rw [← IntWalk.i64_left]
  exact wrap_step h
theorem wrap_in (x : Int) : -9223372036854775808 ≤ IntKind.i64.wrap x ∧ IntKind.i64.wrap x ≤ 9223372036854775807 := by
  rw [IntKind.wrap_i64]; omega
theorem wrap64_in (x : Int) : -9223372036854775808 ≤ wrap64 x ∧ wrap64 x ≤ 9223372036854775807 := by
  rw [← IntWalk.i64_left]; exact wrap_in x
/-- the sum of a node's first edges -/
def part (D : Dt) (left l : Nat → Int) (u e : Nat) : Int := sumE e (fun e => left e - l e) - sumE (pre D.A u) (fun e => left e - l e)
theorem part_step (D : Dt) (left l : Nat → Int) (u e : Nat) : part D left l u (e + 1) = part D left l u e + (left e - l e) := by
  unfold part
  simp only [sumE]
  omega
theorem part_end {D : Dt} {dst back : Nat → Nat} {left l : Nat → Int} {s : Int} (hfi : FI D.V D.A D.A dst back left) (ht : Total (netOf D.V D.A dst back left) l s) {u : Nat} (hu : u < D.V) :
    part D left l u (pre D.A (u + 1)) = s * ((if 0 = u then 1 else 0) - (if D.n + D.k + 1 = u then 1 else 0)) :=
  net_node (hfi.ok (show 2 ≤ D.V by unfold Dt.V; omega)) ht hu
/-- what the checks ask of an edge -/
theorem edge_facts {D : Dt} {dst back : Nat → Nat} {left l lev : Nat → Int} {u e : Nat} (hfi : FI D.V D.A D.A dst back left) (hv : Val (netOf D.V D.A dst back left) l) (hf : Found (netOf D.V D.A dst back left) l lev false) (hu : u < D.V) (h1 : pre D.A u ≤ e) (h2 : e < pre D.A (u + 1)) :
    e < pre D.A D.V ∧ back e < pre D.A D.V ∧ dst e < D.V ∧ (left e < 0 → l e = left e) ∧ (0 ≤ left e → 0 ≤ l e) ∧ left e - l e = -(left (back e) - l (back e)) ∧ (-9223372036854775807 ≤ left e - l e ∧ left e - l e ≤ 9223372036854775807) ∧ (0 ≤ lev u → lev (dst e) < 0 → l e ≤ 0) := by
  have hN := hfi.ok (show 2 ≤ D.V by unfold Dt.V; omega)
  have he : e < pre D.A D.V := Nat.lt_of_lt_of_le h2 (pre_mono D.A hu)
  have ho : (netOf D.V D.A dst back left).own e = u := hN.slot u e hu h1 h2
  have e1 : l e + l (back e) = left e + left (back e) := (hv e he).1
  have e2 : left e < 0 → l e = left e := fun h => hv.neg he h
  have e3 : 0 ≤ left e → 0 ≤ l e := fun h => hv.nonneg he h
  have hbl : back e < pre D.A D.V := hN.back_lt e he
  have e4 : left (back e) < 0 → l (back e) = left (back e) := fun h => hv.neg hbl h
  have e5 : 0 ≤ left (back e) → 0 ≤ l (back e) := fun h => hv.nonneg hbl h
  have e6 : left e ≤ 9223372036854775807 := hN.hi e he
  have e7 : left (back e) ≤ 9223372036854775807 := hN.hi _ hbl
  refine ⟨he, hbl, hN.to_lt e he, e2, e3, by omega, ⟨?_, ?_⟩, fun h3 h4 => ?_⟩
  · by_cases c : left (back e) < 0
    · have := e4 c; omega
    · have := e5 (by omega); omega
  · by_cases c : left e < 0
    · have := e2 c; omega
    · have := e3 (by omega); omega
  · by_cases hp : 0 < l e
    · have h5 : 0 ≤ lev ((netOf D.V D.A dst back left).to e) := (hf.no rfl).2 e he (by rw [ho]; exact h3) hp
      have h6 : lev (dst e) = lev ((netOf D.V D.A dst back left).to e) := rfl
      omega
    · omega
end Go.Proofs.Ybulkdxng.D
