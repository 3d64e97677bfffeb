import Derived.Test.YbulkdxngW
import Derived.Deep.AppendLies
import Derived.Deep.RegionHeld3
import Derived.Deep.CutRange
namespace Go.Proofs.Ybulkdxng.D
open Go.RowKit
set_option linter.unusedVariables false

/-! ### The plain degrees -/
def sh (d : Nat → Nat) : Nat → Nat
  | 0 => 0
  | x + 1 => d x
theorem sh_upd (d : Nat → Nat) (x z : Nat) : updN (sh d) (x + 1) z = sh (updN d x z) := by
  funext i
  cases i with
  | zero => simp [updN, sh]
  | succ i =>
    by_cases e : i = x
    · subst e; simp [updN, sh]
    · rw [updN_ne _ _ (by omega)]; simp [sh, updN, e]
theorem sh1 (d : Nat → Nat) (x : Nat) : sh d (1 + x) = d x := by rw [Nat.add_comm]; rfl
theorem rowN_congr {n : Nat} {f g : Nat → Nat} (h : ∀ i, i < n → f i = g i) : rowN n f = rowN n g := row_congr fun i hi => by rw [h i hi]
def cK (D : Dt) (j u : Nat) : Nat → Nat
  | 0 => 0
  | t + 1 => cK D j u t + one (1 + D.n + D.kd j t) u
theorem cnt_kinds (D : Dt) (j u : Nat) : ∀ t, cntA u (D.kinds j t) = t * one (1 + j) u + cK D j u t
  | 0 => by simp [Dt.kinds, cntA, cK]
  | t + 1 => by
    rw [D.kinds_succ, cntA_append, cnt_kinds D j u t]
    simp only [cntA, cK, Nat.add_mul]
    omega
theorem cnt_A1 (D : Dt) (j u : Nat) : cntA u (D.A1 (j + 1)) = cntA u (D.A1 j) + one 0 u + one (1 + j) u * (1 + D.m j) + cK D j u (D.m j) := by
  simp only [Dt.A1]
  rw [cntA_append, cntA_append, cnt_kinds]
  simp only [cntA, Nat.mul_add, Nat.mul_one]
  rw [Nat.mul_comm (one (1 + j) u)]
  omega
theorem cK_le (D : Dt) (j u : Nat) : ∀ t, cK D j u t ≤ t
  | 0 => Nat.le_refl _
  | t + 1 => by
    have := cK_le D j u t
    simp only [cK, one]
    split <;> omega
theorem one_le (a b : Nat) : one a b ≤ 1 := by unfold one; split <;> omega
theorem updN_add (d : Nat → Nat) (x z u : Nat) : updN d x (d x + z) u = d u + one x u * z := by
  by_cases e : u = x
  · subst e; rw [updN_same, one_self]; omega
  · rw [updN_ne _ _ e, one_ne (Ne.symm e)]; omega

/-- the degrees while contract j is counted -/
def dT (D : Dt) (j u t : Nat) : Nat := cntA u (D.A1 j) + one 0 u + one (1 + j) u * (1 + D.m j) + cK D j u t
theorem dT_start (D : Dt) (j x : Nat) : updN (updN (sh fun u => cntA u (D.A1 j)) 1 (cntA 0 (D.A1 j) + 1)) (1 + (1 + j)) (cntA (1 + j) (D.A1 j) + (1 + D.m j)) x = sh (fun u => dT D j u 0) x := by
  cases x with
  | zero => rw [updN_ne _ _ (by omega), updN_ne _ _ (by omega)]; rfl
  | succ x =>
    show _ = dT D j x 0
    unfold dT
    by_cases e : x = 1 + j
    · subst e
      rw [show 1 + j + 1 = 1 + (1 + j) by omega, updN_same, one_self, one_ne (show 0 ≠ 1 + j by omega)]
      simp [cK]
    · rw [updN_ne _ _ (by omega), one_ne (Ne.symm e)]
      by_cases e0 : x = 0
      · subst e0; rw [show 0 + 1 = 1 from rfl, updN_same, one_self]; simp [cK]
      · rw [updN_ne _ _ (by omega), one_ne (Ne.symm e0)]; simp [cK, sh]
theorem dT_step (D : Dt) (j t x : Nat) : updN (sh fun u => dT D j u t) (1 + (1 + D.n + D.kd j t)) (dT D j (1 + D.n + D.kd j t) t + 1) x = sh (fun u => dT D j u (t + 1)) x := by
  cases x with
  | zero => rw [updN_ne _ _ (by omega)]; rfl
  | succ x =>
    show _ = dT D j x (t + 1)
    by_cases e : x = 1 + D.n + D.kd j t
    · subst e
      rw [show 1 + D.n + D.kd j t + 1 = 1 + (1 + D.n + D.kd j t) by omega, updN_same]
      unfold dT
      simp only [cK, one_self]
      omega
    · rw [updN_ne _ _ (by omega)]
      show dT D j x t = _
      unfold dT
      simp only [cK]
      rw [one_ne (Ne.symm e)]
      omega
theorem dT_end (D : Dt) (j x : Nat) : sh (fun u => dT D j u (D.m j)) x = sh (fun u => cntA u (D.A1 (j + 1))) x := by
  cases x with
  | zero => rfl
  | succ x =>
    show dT D j x (D.m j) = cntA x (D.A1 (j + 1))
    rw [cnt_A1]; rfl
theorem ends_zero (D : Dt) : D.A1 D.n ++ D.ends 0 = D.A1 D.n := by simp [Dt.ends]
theorem cntEnds_le (D : Dt) (hD : D.OK) (u : Nat) {i : Nat} (hi : i ≤ D.k) : cntA u (D.A1 D.n ++ D.ends i) ≤ 920 := by
  have h1 := cntA_le u D.A
  have h2 := D.len hD
  have h3 := (((D.pre_ends hi).left (D.A1 D.n))).cnt u
  have h4 : cntA u (D.A1 D.n ++ D.ends D.k) = cntA u D.A := rfl
  omega
theorem cntEnds (D : Dt) (i u : Nat) : cntA u (D.A1 D.n ++ D.ends (i + 1)) = cntA u (D.A1 D.n ++ D.ends i) + one (1 + D.n + i) u + one (D.n + D.k + 1) u := by
  rw [D.ends_succ, ← List.append_assoc, cntA_append]
  simp only [cntA]
  omega
theorem ends_step (D : Dt) {i : Nat} (hi : i < D.k) (x : Nat) : updN (updN (sh fun u => cntA u (D.A1 D.n ++ D.ends i)) (1 + (1 + D.n + i)) (cntA (1 + D.n + i) (D.A1 D.n ++ D.ends i) + 1)) (1 + (D.n + D.k + 1)) (cntA (D.n + D.k + 1) (D.A1 D.n ++ D.ends i) + 1) x = sh (fun u => cntA u (D.A1 D.n ++ D.ends (i + 1))) x := by
  cases x with
  | zero => rw [updN_ne _ _ (by omega), updN_ne _ _ (by omega)]; rfl
  | succ x =>
    show _ = cntA x (D.A1 D.n ++ D.ends (i + 1))
    rw [cntEnds]
    by_cases e : x = D.n + D.k + 1
    · subst e
      rw [show D.n + D.k + 1 + 1 = 1 + (D.n + D.k + 1) by omega, updN_same, one_self, one_ne (by omega)]
    · rw [updN_ne _ _ (by omega), one_ne (Ne.symm e)]
      by_cases e0 : x = 1 + D.n + i
      · subst e0; rw [show 1 + D.n + i + 1 = 1 + (1 + D.n + i) by omega, updN_same, one_self]
      · rw [updN_ne _ _ (by omega), one_ne (Ne.symm e0)]; rfl
/-- the running sums: up to v they are done -/
def run (D : Dt) (v x : Nat) : Nat := if x ≤ v then pre D.A x else sh (fun u => cntA u D.A) x
theorem run_zero (D : Dt) (x : Nat) : run D 0 x = sh (fun u => cntA u (D.A1 D.n ++ D.ends D.k)) x := by
  cases x with
  | zero => rfl
  | succ x => simp [run]; rfl
theorem run_lo (D : Dt) {v x : Nat} (h : x ≤ v) : run D v x = pre D.A x := if_pos h
theorem run_hi (D : Dt) (v : Nat) : run D v (v + 1) = cntA v D.A := by unfold run; rw [if_neg (by omega)]; rfl
theorem run_step (D : Dt) (v x : Nat) : updN (run D v) (v + 1) (cntA v D.A + pre D.A v) x = run D (v + 1) x := by
  by_cases e : x = v + 1
  · subst e; rw [updN_same, run_lo D (Nat.le_refl _)]; simp only [pre]; omega
  · rw [updN_ne _ _ e]
    by_cases h : x ≤ v
    · rw [run_lo D h, run_lo D (by omega)]
    · unfold run; rw [if_neg h, if_neg (by omega)]
theorem Yba.info2 : (Yba.prog.info? 2).map (fun i => (i.zero, i.size, i.bytes)) = some (some (.int .i64 0), 1, 8) := by kernel_rfl
structure NIn (D : Dt) (ww kb cb : Nat) (X : Nat → Option Addr) (XC : Nat → Nat) (w : World) : Prop where
  wl : ww < w.heap.size
  kl : kb < w.heap.size
  cl : cb < w.heap.size
  ws : ∀ j, j < D.n → w.cell? ⟨ww, j, none⟩ = some (.int .i64 (D.w j))
  k : ∀ j, j < D.n → w.cell? ⟨kb, j, none⟩ = some (.slice (X j) (D.m j) (XC j))
  ks : ∀ j, j < D.n → D.m j = 0 ∨ ∃ b, X j = some ⟨b, 0, none⟩ ∧ b < w.heap.size ∧ ∀ t, t < D.m j → w.cell? ⟨b, t, none⟩ = some (.int .i64 (D.kd j t : Int))
  c : ∀ i, i < D.k → w.cell? ⟨cb, i, none⟩ = some (.int .i64 (D.c i))
theorem NIn.below {D : Dt} {ww kb cb : Nat} {X : Nat → Option Addr} {XC : Nat → Nat} {w w' : World} (h : NIn D ww kb cb X XC w) (hb : Below w.heap.size w w') : NIn D ww kb cb X XC w' := by
  refine ⟨Nat.lt_of_lt_of_le h.wl hb.size, Nat.lt_of_lt_of_le h.kl hb.size, Nat.lt_of_lt_of_le h.cl hb.size, fun j hj => by rw [hb.cell (p := ⟨ww, j, none⟩) h.wl]; exact h.ws j hj, fun j hj => by rw [hb.cell (p := ⟨kb, j, none⟩) h.kl]; exact h.k j hj, fun j hj => ?_, fun i hi => by rw [hb.cell (p := ⟨cb, i, none⟩) h.cl]; exact h.c i hi⟩
  rcases h.ks j hj with h0 | ⟨b, h1, h2, h3⟩
  · exact .inl h0
  · exact .inr ⟨b, h1, Nat.lt_of_lt_of_le h2 hb.size, fun t ht => by rw [hb.cell (p := ⟨b, t, none⟩) h2]; exact h3 t ht⟩
theorem made_row (n : Nat) : madeCells (Value.int .i64 0).cells (n * 1) = rowN n fun _ => 0 := by
  apply Array.ext_getElem?
  intro i
  by_cases h : i < n
  · unfold rowN
    rw [get_row _ h]
    simp [madeCells, Value.cells, h, Nat.mod_one]
  · rw [Array.getElem?_eq_none (by simp [size_madeCells]; omega), Array.getElem?_eq_none (by simp [rowN, size_row]; omega)]

theorem made_row2 (n : Nat) : madeCells (Value.int .i64 0).cells (n * 1) = row n fun _ => 0 := made_row n
theorem run_make_n {P : Program} (t e : TypeId) (z : Value) (size bytes : Nat) (ht : P.underlying t = some (.slice e)) (hi : (P.info? e).map (fun i => (i.zero, i.size, i.bytes)) = some (some z, size, bytes))
    (n : Nat) (hb : bytes * n ≤ 281474976710656) (h63 : n ≤ 9223372036854775807) (w : World) :
    (Instr.makeSlice t (.int .i64 (n : Int)) (.int .i64 (n : Int))).run P w = .ok (.slice (some ⟨w.heap.size, 0, none⟩) n n) (w.alloc (.cells (madeCells z.cells (n * size)) e)) := by
  obtain ⟨i, h1, h2, h3, h4⟩ := info_parts hi
  have hb' : (i.bytes : Int) * (n : Int) ≤ 281474976710656 := by
    rw [h4]
    have h : ((bytes * n : Nat) : Int) ≤ 281474976710656 := by omega
    rwa [Int.natCast_mul] at h
  have hr := run_make (P := P) w t e i z ht h1 h2 .i64 .i64 n n (by omega) (Int.le_refl _) hb' (by omega)
  simpa [h3] using hr
/-- the world while the degrees are counted: block S holds first, S + 1 the flow, S + 2 the variable -/
structure SW (w : World) (V : Nat) (g : Nat → Nat) (wr : World) : Prop where
  below : Below w.heap.size w wr
  size : wr.heap.size = w.heap.size + 3
  first : wr.heap[w.heap.size]? = some (.cells (rowN (V + 1) g) 3 (0, 0))
  f : wr.heap[w.heap.size + 1]? = some (.cells #[.slice (some ⟨w.heap.size, 0, none⟩) (V + 1) (V + 1), .slice none 0 0, .slice none 0 0, .slice none 0 0, .slice none 0 0, .slice none 0 0, .slice none 0 0] 31 (0, 0))
  fv : wr.heap[w.heap.size + 2]? = some (.cells #[.pointer (some ⟨w.heap.size + 1, 0, none⟩)] 27 (0, 0))
theorem SW.cells {w wr : World} {V : Nat} {g : Nat → Nat} (h : SW w V g wr) : wr.cell? ⟨w.heap.size + 2, 0, none⟩ = some (.pointer (some ⟨w.heap.size + 1, 0, none⟩)) ∧ wr.cell? ⟨w.heap.size + 1, 0, none⟩ = some (.slice (some ⟨w.heap.size, 0, none⟩) (V + 1) (V + 1)) := by
  simp [World.cell?, h.f, h.fv]
theorem SW.cellsF {w wr : World} {V : Nat} {g : Nat → Nat} (h : SW w V g wr) : wr.cell? ⟨w.heap.size + 1, 1, none⟩ = some (.slice none 0 0) ∧ wr.cell? ⟨w.heap.size + 1, 2, none⟩ = some (.slice none 0 0) ∧ wr.cell? ⟨w.heap.size + 1, 3, none⟩ = some (.slice none 0 0) ∧ wr.cell? ⟨w.heap.size + 1, 4, none⟩ = some (.slice none 0 0) ∧ wr.cell? ⟨w.heap.size + 1, 5, none⟩ = some (.slice none 0 0) := by
  simp [World.cell?, h.f]
theorem SW.set {w wr : World} {V : Nat} {g : Nat → Nat} (h : SW w V g wr) {x : Nat} (hx : x < V + 1) (z : Nat) : SW w V (updN g x z) (wr.setCell ⟨w.heap.size, x, none⟩ (.int .i64 (z : Int))) :=
  ⟨h.below.setCell (Nat.le_refl _) _, by simp [World.setCell]; exact h.size, by rw [heap_setCell h.first, set_rowN _ _ hx], by rw [Below.heap_setCell _ _ _ _ (by simp)]; exact h.f, by rw [Below.heap_setCell _ _ _ _ (by simp)]; exact h.fv⟩
theorem SW.drew1 {w wr : World} {V : Nat} {g : Nat → Nat} (h : SW w V g wr) : SW w V g wr.drew := ⟨h.below.drew, h.size, h.first, h.f, h.fv⟩
theorem SW.drewN {w wr : World} {V : Nat} {g : Nat → Nat} (h : SW w V g wr) (k : Nat) : SW w V g (wr.drewN k) := ⟨below_drewN h.below k, h.size, h.first, h.f, h.fv⟩
theorem SW.congr {w wr : World} {V : Nat} {g g' : Nat → Nat} (h : SW w V g wr) (e : ∀ x, x < V + 1 → g x = g' x) : SW w V g' wr :=
  ⟨h.below, h.size, by rw [← rowN_congr e]; exact h.first, h.f, h.fv⟩

/-- the world behind the three makes -/
structure TW (w : World) (V E : Nat) (g : Nat → Nat) (bt bl bb : Nat) (wr : World) : Prop where
  below : Below w.heap.size w wr
  size : w.heap.size + 6 ≤ wr.heap.size
  first : wr.heap[w.heap.size]? = some (.cells (rowN (V + 1) g) 3 (0, 0))
  f : wr.heap[w.heap.size + 1]? = some (.cells #[.slice (some ⟨w.heap.size, 0, none⟩) (V + 1) (V + 1), .slice (some ⟨bt, 0, none⟩) E E, .slice (some ⟨bl, 0, none⟩) E E, .slice (some ⟨bb, 0, none⟩) E E, .slice none 0 0, .slice none 0 0, .slice none 0 0] 31 (0, 0))
  fv : wr.heap[w.heap.size + 2]? = some (.cells #[.pointer (some ⟨w.heap.size + 1, 0, none⟩)] 27 (0, 0))
  t : wr.heap[bt]? = some (.cells (rowN E fun _ => 0) 3 (0, 0))
  l : wr.heap[bl]? = some (.cells (row E fun _ => 0) 2 (0, 0))
  b : wr.heap[bb]? = some (.cells (rowN E fun _ => 0) 3 (0, 0))
  ht : w.heap.size + 3 ≤ bt ∧ bt < w.heap.size + 6
  hl : w.heap.size + 3 ≤ bl ∧ bl < w.heap.size + 6
  hb : w.heap.size + 3 ≤ bb ∧ bb < w.heap.size + 6
  tl : bt ≠ bl
  tb : bt ≠ bb
  lb : bl ≠ bb
theorem alloc3 (U : World) (x y z : Obj) (n : Nat) (hn : U.heap.size = n) : (∀ i, i < n → (((U.alloc x).alloc y).alloc z).heap[i]? = U.heap[i]?) ∧ (((U.alloc x).alloc y).alloc z).heap[n]? = some x ∧ (((U.alloc x).alloc y).alloc z).heap[n + 1]? = some y ∧ (((U.alloc x).alloc y).alloc z).heap[n + 2]? = some z := by
  subst hn
  have h1 : (U.alloc x).heap.size = U.heap.size + 1 := by simp
  have h2 : ((U.alloc x).alloc y).heap.size = U.heap.size + 2 := by simp
  refine ⟨fun i hi => ?_, ?_, ?_, ?_⟩
  · rw [Below.heap_alloc _ _ _ (by rw [h2]; omega), Below.heap_alloc _ _ _ (by rw [h1]; omega), Below.heap_alloc _ _ _ hi]
  · rw [Below.heap_alloc _ _ _ (by rw [h2]; omega), Below.heap_alloc _ _ _ (by rw [h1]; omega), heap_alloc_new]
  · rw [Below.heap_alloc _ _ _ (by rw [h2]; omega)]
    have h := heap_alloc_new (U.alloc x) y
    rwa [h1] at h
  · have h := heap_alloc_new ((U.alloc x).alloc y) z
    rwa [h2] at h
theorem three_makes {w W3 : World} {V E : Nat} {g : Nat → Nat} (h : SW w V g W3) (x y z : Obj) (bt bl bb : Nat)
    (hp : (w.heap.size + 3 ≤ bt ∧ bt < w.heap.size + 6) ∧ (w.heap.size + 3 ≤ bl ∧ bl < w.heap.size + 6) ∧ (w.heap.size + 3 ≤ bb ∧ bb < w.heap.size + 6) ∧ bt ≠ bl ∧ bt ≠ bb ∧ bl ≠ bb)
    (ho : ∀ W : World, W.heap[w.heap.size + 3]? = some x → W.heap[w.heap.size + 3 + 1]? = some y → W.heap[w.heap.size + 3 + 2]? = some z → W.heap[bt]? = some (.cells (rowN E fun _ => 0) 3 (0, 0)) ∧ W.heap[bl]? = some (.cells (row E fun _ => 0) 2 (0, 0)) ∧ W.heap[bb]? = some (.cells (rowN E fun _ => 0) 3 (0, 0))) :
    TW w V E g bt bl bb ((((((W3.setCell ⟨w.heap.size + 1, 1, none⟩ (.slice (some ⟨bt, 0, none⟩) E E)).setCell ⟨w.heap.size + 1, 2, none⟩ (.slice (some ⟨bl, 0, none⟩) E E)).setCell ⟨w.heap.size + 1, 3, none⟩ (.slice (some ⟨bb, 0, none⟩) E E)).alloc x).alloc y).alloc z).drew := by
  generalize hp1 : Value.slice (some ⟨bt, 0, none⟩) E E = p
  generalize hq1 : Value.slice (some ⟨bl, 0, none⟩) E E = q
  generalize hr1 : Value.slice (some ⟨bb, 0, none⟩) E E = r
  have e0 : (((W3.setCell ⟨w.heap.size + 1, 1, none⟩ p).setCell ⟨w.heap.size + 1, 2, none⟩ q).setCell ⟨w.heap.size + 1, 3, none⟩ r).heap.size = w.heap.size + 3 := by simp [World.setCell]; exact h.size
  have b0 : Below w.heap.size w (((W3.setCell ⟨w.heap.size + 1, 1, none⟩ p).setCell ⟨w.heap.size + 1, 2, none⟩ q).setCell ⟨w.heap.size + 1, 3, none⟩ r) := ((h.below.setCell (p := ⟨w.heap.size + 1, 1, none⟩) (by simp) _).setCell (p := ⟨w.heap.size + 1, 2, none⟩) (by simp) _).setCell (p := ⟨w.heap.size + 1, 3, none⟩) (by simp) _
  have f0 : (((W3.setCell ⟨w.heap.size + 1, 1, none⟩ p).setCell ⟨w.heap.size + 1, 2, none⟩ q).setCell ⟨w.heap.size + 1, 3, none⟩ r).heap[w.heap.size]? = some (.cells (rowN (V + 1) g) 3 (0, 0)) := by
    rw [Below.heap_setCell _ _ _ _ (by simp), Below.heap_setCell _ _ _ _ (by simp), Below.heap_setCell _ _ _ _ (by simp)]; exact h.first
  have f2 : (((W3.setCell ⟨w.heap.size + 1, 1, none⟩ p).setCell ⟨w.heap.size + 1, 2, none⟩ q).setCell ⟨w.heap.size + 1, 3, none⟩ r).heap[w.heap.size + 2]? = some (.cells #[.pointer (some ⟨w.heap.size + 1, 0, none⟩)] 27 (0, 0)) := by
    rw [Below.heap_setCell _ _ _ _ (by simp), Below.heap_setCell _ _ _ _ (by simp), Below.heap_setCell _ _ _ _ (by simp)]; exact h.fv
  have f1 : (((W3.setCell ⟨w.heap.size + 1, 1, none⟩ p).setCell ⟨w.heap.size + 1, 2, none⟩ q).setCell ⟨w.heap.size + 1, 3, none⟩ r).heap[w.heap.size + 1]? = some (.cells #[.slice (some ⟨w.heap.size, 0, none⟩) (V + 1) (V + 1), p, q, r, .slice none 0 0, .slice none 0 0, .slice none 0 0] 31 (0, 0)) := by
    rw [heap_setCell (heap_setCell (heap_setCell h.f))]; simp
  generalize (((W3.setCell ⟨w.heap.size + 1, 1, none⟩ p).setCell ⟨w.heap.size + 1, 2, none⟩ q).setCell ⟨w.heap.size + 1, 3, none⟩ r) = U at *
  obtain ⟨k, k1, k2, k3⟩ := alloc3 U x y z _ e0
  have hb : Below w.heap.size w (((U.alloc x).alloc y).alloc z) := ((b0.alloc (by omega) _).alloc (by rw [World.size_alloc]; omega) _).alloc (by rw [World.size_alloc, World.size_alloc]; omega) _
  have hs : (((U.alloc x).alloc y).alloc z).heap.size = w.heap.size + 6 := by rw [World.size_alloc, World.size_alloc, World.size_alloc, e0]
  generalize ((U.alloc x).alloc y).alloc z = W at *
  obtain ⟨o1, o2, o3⟩ := ho W k1 k2 k3
  obtain ⟨a1, a2, a3, a4, a5, a6⟩ := hp
  refine ⟨hb.drew, Nat.le_of_eq hs.symm, (k _ (by omega)).trans f0, (k _ (by omega)).trans ?_, (k _ (by omega)).trans f2, o1, o2, o3, a1, a2, a3, a4, a5, a6⟩
  rw [f1, hp1, hq1, hr1]
section
variable {w wr : World} {V E : Nat} {g : Nat → Nat} {bt bl bb : Nat}
theorem TW.drew (h : TW w V E g bt bl bb wr) : TW w V E g bt bl bb wr.drew := ⟨h.below.drew, h.size, h.first, h.f, h.fv, h.t, h.l, h.b, h.ht, h.hl, h.hb, h.tl, h.tb, h.lb⟩
theorem TW.keep {wr' : World} (h : TW w V E g bt bl bb wr) (hb : Below w.heap.size w wr') (hs : w.heap.size + 6 ≤ wr'.heap.size) (hk : ∀ i, i < w.heap.size + 6 → wr'.heap[i]? = wr.heap[i]?) : TW w V E g bt bl bb wr' :=
  ⟨hb, hs, by rw [hk _ (by omega)]; exact h.first, by rw [hk _ (by omega)]; exact h.f, by rw [hk _ (by omega)]; exact h.fv, by rw [hk _ (by have := h.ht; omega)]; exact h.t, by rw [hk _ (by have := h.hl; omega)]; exact h.l, by rw [hk _ (by have := h.hb; omega)]; exact h.b, h.ht, h.hl, h.hb, h.tl, h.tb, h.lb⟩
theorem TW.alloc (h : TW w V E g bt bl bb wr) (o : Obj) : TW w V E g bt bl bb (wr.alloc o) :=
  h.keep (h.below.alloc (by have := h.size; omega) _) (by have := h.size; simp; omega) fun i hi => Below.heap_alloc _ _ _ (by have := h.size; omega)
theorem TW.set (h : TW w V E g bt bl bb wr) {x : Nat} (hx : w.heap.size + 6 ≤ x) (o : Nat) (v : Value) : TW w V E g bt bl bb (wr.setCell ⟨x, o, none⟩ v) :=
  h.keep (h.below.setCell (p := ⟨x, o, none⟩) (by show w.heap.size ≤ x; omega) _) (by have := h.size; simp [World.setCell]; omega) fun i hi => Below.heap_setCell _ _ _ _ (by show i ≠ x; omega)
theorem TW.grow {wr' : World} (h : TW w V E g bt bl bb wr) (hg : wr.grownBy wr' none) : TW w V E g bt bl bb wr' :=
  h.keep ⟨hg.os.trans h.below.os, hg.tape.trans h.below.tape, hg.output.trans h.below.output, Nat.le_trans h.below.size hg.size, fun i hi => (hg.block i (by have := h.size; omega) (by simp)).trans (h.below.block i hi)⟩ (by have := h.size; have := hg.size; omega) fun i hi => hg.block i (by have := h.size; omega) (by simp)
theorem TW.three (h : TW w V E g bt bl bb wr) : wr.cell? ⟨w.heap.size + 1 + 1, 0, none⟩ = some (.pointer (some ⟨w.heap.size + 1, 0, none⟩)) ∧ wr.cell? ⟨w.heap.size + 1, 0, none⟩ = some (.slice (some ⟨w.heap.size, 0, none⟩) (V + 1) (V + 1)) ∧ TW w V E g bt bl bb wr :=
  ⟨by simp [World.cell?, h.fv], by simp [World.cell?, h.f], h⟩
theorem grown_new {wc w1 : World} {x : Value} {t : TypeId} (hg : (wc.drew.alloc (.cells #[x] t)).grownBy w1 none) : w1.heap[wc.heap.size]? = some (.cells #[x] t (0, 0)) ∧ w1.cell? ⟨wc.heap.size, 0, none⟩ = some x ∧ w1.frozen? ⟨wc.heap.size, 0, none⟩ = false := by
  have h : w1.heap[wc.heap.size]? = some (.cells #[x] t (0, 0)) := (hg.block wc.heap.size (by rw [World.size_alloc]; exact Nat.lt_succ_self _) (by simp)).trans (heap_alloc_new wc.drew _)
  exact ⟨h, by simp [World.cell?, h], by simp [World.frozen?, h]⟩
def firsts (g : Nat → Nat) (V : Nat) : List Value := (List.range V).map fun u => .int .i64 (g u : Int)
theorem TW.news (h : TW w V E g bt bl bb wr) : ∀ (j : Nat) (u : Value), (firsts g V)[j]? = some u → wr.cell? ((⟨w.heap.size, 0, none⟩ : Addr).add j) = some u := fun j u hu => by
  have hj : j < V := by
    rcases Nat.lt_or_ge j V with h | h
    · exact h
    · rw [List.getElem?_eq_none (by simp [firsts]; omega)] at hu; cases hu
  have hadd : (⟨w.heap.size, 0, none⟩ : Addr).add j = ⟨w.heap.size, j, none⟩ := by unfold Addr.add; split <;> simp_all
  rw [hadd, cell_rowN h.first (by omega)]
  simp [firsts, hj] at hu
  rw [← hu]
theorem keep_grow {wr' : World} (h : wr.cell? ⟨w.heap.size + 1 + 1, 0, none⟩ = some (.pointer (some ⟨w.heap.size + 1, 0, none⟩)) ∧ wr.cell? ⟨w.heap.size + 1, 0, none⟩ = some (.slice (some ⟨w.heap.size, 0, none⟩) (V + 1) (V + 1)) ∧ TW w V E g bt bl bb wr) (hg : wr.grownBy wr' none) :
    wr'.cell? ⟨w.heap.size + 1 + 1, 0, none⟩ = some (.pointer (some ⟨w.heap.size + 1, 0, none⟩)) ∧ wr'.cell? ⟨w.heap.size + 1, 0, none⟩ = some (.slice (some ⟨w.heap.size, 0, none⟩) (V + 1) (V + 1)) ∧ TW w V E g bt bl bb wr' := (h.2.2.grow hg).three
theorem keep_alloc (h : wr.cell? ⟨w.heap.size + 1 + 1, 0, none⟩ = some (.pointer (some ⟨w.heap.size + 1, 0, none⟩)) ∧ wr.cell? ⟨w.heap.size + 1, 0, none⟩ = some (.slice (some ⟨w.heap.size, 0, none⟩) (V + 1) (V + 1)) ∧ TW w V E g bt bl bb wr) (o : Obj) :
    (wr.alloc o).cell? ⟨w.heap.size + 1 + 1, 0, none⟩ = some (.pointer (some ⟨w.heap.size + 1, 0, none⟩)) ∧ (wr.alloc o).cell? ⟨w.heap.size + 1, 0, none⟩ = some (.slice (some ⟨w.heap.size, 0, none⟩) (V + 1) (V + 1)) ∧ TW w V E g bt bl bb (wr.alloc o) := (h.2.2.alloc o).three
theorem keep_set (h : wr.cell? ⟨w.heap.size + 1 + 1, 0, none⟩ = some (.pointer (some ⟨w.heap.size + 1, 0, none⟩)) ∧ wr.cell? ⟨w.heap.size + 1, 0, none⟩ = some (.slice (some ⟨w.heap.size, 0, none⟩) (V + 1) (V + 1)) ∧ TW w V E g bt bl bb wr) {x : Nat} (hx : w.heap.size + 6 ≤ x) (o : Nat) (v : Value) :
    (wr.setCell ⟨x, o, none⟩ v).cell? ⟨w.heap.size + 1 + 1, 0, none⟩ = some (.pointer (some ⟨w.heap.size + 1, 0, none⟩)) ∧ (wr.setCell ⟨x, o, none⟩ v).cell? ⟨w.heap.size + 1, 0, none⟩ = some (.slice (some ⟨w.heap.size, 0, none⟩) (V + 1) (V + 1)) ∧ TW w V E g bt bl bb (wr.setCell ⟨x, o, none⟩ v) := (h.2.2.set hx o v).three
theorem keep_size (h : wr.cell? ⟨w.heap.size + 1 + 1, 0, none⟩ = some (.pointer (some ⟨w.heap.size + 1, 0, none⟩)) ∧ wr.cell? ⟨w.heap.size + 1, 0, none⟩ = some (.slice (some ⟨w.heap.size, 0, none⟩) (V + 1) (V + 1)) ∧ TW w V E g bt bl bb wr) : w.heap.size + 6 ≤ wr.heap.size := h.2.2.size
theorem keep_news (h : wr.cell? ⟨w.heap.size + 1 + 1, 0, none⟩ = some (.pointer (some ⟨w.heap.size + 1, 0, none⟩)) ∧ wr.cell? ⟨w.heap.size + 1, 0, none⟩ = some (.slice (some ⟨w.heap.size, 0, none⟩) (V + 1) (V + 1)) ∧ TW w V E g bt bl bb wr) : ∀ (j : Nat) (u : Value), (firsts g V)[j]? = some u → wr.cell? ((⟨w.heap.size, 0, none⟩ : Addr).add j) = some u := h.2.2.news
theorem owns_fill {w1 : World} {base gg cap : Nat} (h : w1.ownsRow base 3 1 (.slice (some ⟨gg, 0, none⟩) V cap) V (firsts g V)) : base ≤ gg ∧ ∃ cur, w1.heap[gg]? = some (.cells cur 3 (0, 0)) ∧ ∀ u, u < V → cur[u]? = some (.int .i64 (g u : Int)) := by
  rcases h.2 with ⟨h1, _⟩ | ⟨g', cap', cur, h1, h2, h3, h4, h5, h6, h7⟩
  · cases h1
  · cases h1
    refine ⟨h2, cur, h3, fun u hu => ?_⟩
    have h8 : (cur.toList.take (V * 1))[u]? = (firsts g V)[u]? := by rw [h7]
    rw [List.getElem?_take_of_lt (by omega)] at h8
    rw [← Array.getElem?_toList, h8]
    simp [firsts, hu]
theorem BW.ofTW {iv bi icap : Nat} (h : TW w V E g bt bl bb wr) (h1 : wr.heap[iv]? = some (.cells #[.slice (some ⟨bi, 0, none⟩) V icap] 26 (0, 0))) (h2 : ∃ cur, wr.heap[bi]? = some (.cells cur 3 (0, 0)) ∧ ∀ u, u < V → cur[u]? = some (.int .i64 (g u : Int))) :
    BW ⟨iv, w.heap.size + 2, w.heap.size + 1, w.heap.size, bt, bl, bb, bi, icap⟩ V E g (fun _ => 0) (fun _ => 0) g (fun _ => 0) wr := ⟨h1, h.fv, h.f, h.first, h.t, h.l, h.b, h2⟩
theorem bw_one {wc w1 : World} {gg cap : Nat} (h : TW w V E g bt bl bb wc) (hg : wc.drew.grownBy w1 none) (hown : w1.ownsRow (w.heap.size + 6) 3 1 (.slice (some ⟨gg, 0, none⟩) V cap) V (firsts g V)) (hlt : gg < w1.heap.size) :
    ∃ iv bi icap, Value.pointer (some ⟨w1.heap.size, 0, none⟩) = .pointer (some ⟨iv, 0, none⟩) ∧ BW ⟨iv, w.heap.size + 2, w.heap.size + 1, w.heap.size, bt, bl, bb, bi, icap⟩ V E g (fun _ => 0) (fun _ => 0) g (fun _ => 0) (w1.alloc (.cells #[.slice (some ⟨gg, 0, none⟩) V cap] 26)) ∧ w.heap.size + 6 ≤ iv ∧ w.heap.size + 6 ≤ bi ∧ iv ≠ bi ∧ Below w.heap.size w (w1.alloc (.cells #[.slice (some ⟨gg, 0, none⟩) V cap] 26)) ∧ w.heap.size + 6 ≤ (w1.alloc (.cells #[.slice (some ⟨gg, 0, none⟩) V cap] 26)).heap.size := by
  have ht := h.drew.grow hg
  have hf := ht.alloc (.cells #[.slice (some ⟨gg, 0, none⟩) V cap] 26)
  obtain ⟨hb, cur, k1, k2⟩ := owns_fill hown
  exact ⟨w1.heap.size, gg, cap, rfl, BW.ofTW hf (heap_alloc_new _ _) ⟨cur, by rw [Below.heap_alloc _ _ _ hlt]; exact k1, k2⟩, ht.size, hb, by omega, hf.below, hf.size⟩
theorem bw_two {wc w1 : World} {gg cap : Nat} (h : TW w V E g bt bl bb wc) (hg : (wc.drew.alloc (.cells #[.slice none 0 0] 26)).grownBy w1 none) (hown : w1.ownsRow (w.heap.size + 6) 3 1 (.slice (some ⟨gg, 0, none⟩) V cap) V (firsts g V)) (hat : (Value.slice none 0 0).ownBlock = some gg ∨ gg = (wc.alloc (.cells #[.slice none 0 0] 26)).drew.heap.size) :
    ∃ iv bi icap, Value.pointer (some ⟨wc.heap.size, 0, none⟩) = .pointer (some ⟨iv, 0, none⟩) ∧ BW ⟨iv, w.heap.size + 2, w.heap.size + 1, w.heap.size, bt, bl, bb, bi, icap⟩ V E g (fun _ => 0) (fun _ => 0) g (fun _ => 0) (w1.setCell ⟨wc.heap.size, 0, none⟩ (.slice (some ⟨gg, 0, none⟩) V cap)) ∧ w.heap.size + 6 ≤ iv ∧ w.heap.size + 6 ≤ bi ∧ iv ≠ bi ∧ Below w.heap.size w (w1.setCell ⟨wc.heap.size, 0, none⟩ (.slice (some ⟨gg, 0, none⟩) V cap)) ∧ w.heap.size + 6 ≤ (w1.setCell ⟨wc.heap.size, 0, none⟩ (.slice (some ⟨gg, 0, none⟩) V cap)).heap.size := by
  have ht := (h.drew.alloc _).grow hg
  have hsz := h.size
  have hf := ht.set (x := wc.heap.size) hsz 0 (.slice (some ⟨gg, 0, none⟩) V cap)
  obtain ⟨hb, cur, k1, k2⟩ := owns_fill hown
  have hgg : gg = wc.heap.size + 1 := by
    rcases hat with h | h
    · cases h
    · have e : (wc.alloc (.cells #[.slice none 0 0] 26)).drew.heap.size = wc.heap.size + 1 := World.size_alloc wc _
      rw [h, e]
  exact ⟨wc.heap.size, gg, cap, rfl, BW.ofTW hf (by rw [heap_setCell (grown_new hg).1]; rfl) ⟨cur, by rw [Below.heap_setCell _ _ _ _ (by show gg ≠ wc.heap.size; omega)]; exact k1, k2⟩, hsz, hb, by omega, hf.below, hf.size⟩
theorem TW.dis {iv bi icap : Nat} (h : TW w V E g bt bl bb wr) (h1 : w.heap.size + 6 ≤ iv) (h2 : w.heap.size + 6 ≤ bi) (h3 : iv ≠ bi) : BB.Dis ⟨iv, w.heap.size + 2, w.heap.size + 1, w.heap.size, bt, bl, bb, bi, icap⟩ := by
  have k1 := h.ht
  have k2 := h.hl
  have k3 := h.hb
  have k4 := h.tl
  have k5 := h.tb
  have k6 := h.lb
  constructor <;> (dsimp only; omega)
theorem same_below {b : BB} {x : World} (h : Below w.heap.size w wr) (hs : SameB b wr x) (h1 : w.heap.size ≤ b.bt) (h2 : w.heap.size ≤ b.bl) (h3 : w.heap.size ≤ b.bb) (h4 : w.heap.size ≤ b.bi) : Below w.heap.size w x :=
  ⟨hs.os.trans h.os, hs.tape.trans h.tape, hs.output.trans h.output, by have := h.size; have := hs.size; omega, fun i hi => (hs.block i (by omega) (by omega) (by omega) (by omega)).trans (h.block i hi)⟩
theorem firsts_one : ∀ u ∈ firsts g V, u.oneCell' = true := fun u hu => by
  simp [firsts] at hu
  obtain ⟨a, _, rfl⟩ := hu
  rfl
end

theorem alloc2 (U : World) (x y : Obj) (n : Nat) (hn : U.heap.size = n) : (∀ i, i < n → ((U.alloc x).alloc y).heap[i]? = U.heap[i]?) ∧ ((U.alloc x).alloc y).heap[n]? = some x ∧ ((U.alloc x).alloc y).heap[n + 1]? = some y := by
  subst hn
  have h1 : (U.alloc x).heap.size = U.heap.size + 1 := by simp
  refine ⟨fun i hi => ?_, ?_, ?_⟩
  · rw [Below.heap_alloc _ _ _ (by rw [h1]; omega), Below.heap_alloc _ _ _ hi]
  · rw [Below.heap_alloc _ _ _ (by rw [h1]; omega), heap_alloc_new]
  · have h := heap_alloc_new (U.alloc x) y
    rwa [h1] at h
theorem two_makes {w wr : World} {V iv bt bl bb bi icap : Nat} {A : List Ad} {dst back fill : Nat → Nat} {left : Nat → Int} (bv bn : Nat) (h : BW ⟨iv, w.heap.size + 2, w.heap.size + 1, w.heap.size, bt, bl, bb, bi, icap⟩ V (pre A V) (pre A) dst back fill left wr)
    (hb : Below w.heap.size w wr) (hR : (w.heap.size + 3 ≤ bt ∧ bt < w.heap.size + 6) ∧ (w.heap.size + 3 ≤ bl ∧ bl < w.heap.size + 6) ∧ (w.heap.size + 3 ≤ bb ∧ bb < w.heap.size + 6) ∧ bt ≠ bl ∧ bt ≠ bb ∧ bl ≠ bb) (hs : w.heap.size + 6 ≤ wr.heap.size)
    (hv : (bv = wr.heap.size ∧ bn = wr.heap.size + 1) ∨ (bv = wr.heap.size + 1 ∧ bn = wr.heap.size)) (W : World)
    (hW : W = ((((wr.setCell ⟨w.heap.size + 1, 4, none⟩ (.slice (some ⟨bv, 0, none⟩) V V)).setCell ⟨w.heap.size + 1, 5, none⟩ (.slice (some ⟨bn, 0, none⟩) V V)).alloc (.cells (rowN V fun _ => 0) 3)).alloc (.cells (rowN V fun _ => 0) 3)).drew) :
    W.cell? ⟨w.heap.size + 1 + 1, 0, none⟩ = some (.pointer (some ⟨w.heap.size + 1, 0, none⟩)) ∧ Blk.Dis ⟨w.heap.size + 1, w.heap.size, bt, bl, bb, bv, bn⟩ ∧ Blk.Lt ⟨w.heap.size + 1, w.heap.size, bt, bl, bb, bv, bn⟩ W.heap.size ∧
    FW ⟨w.heap.size + 1, w.heap.size, bt, bl, bb, bv, bn⟩ (netOf V A dst back left) (fun _ => ((0 : Nat) : Int)) left (fun _ => 0) (.slice none 0 0) W ∧ Below w.heap.size w W := by
  obtain ⟨r1, r2, r3, r4, r5, r6⟩ := hR
  generalize hp1 : Value.slice (some ⟨bv, 0, none⟩) V V = p at hW
  generalize hq1 : Value.slice (some ⟨bn, 0, none⟩) V V = q at hW
  have e0 : ((wr.setCell ⟨w.heap.size + 1, 4, none⟩ p).setCell ⟨w.heap.size + 1, 5, none⟩ q).heap.size = wr.heap.size := by simp [World.setCell]
  have b0 : Below w.heap.size w ((wr.setCell ⟨w.heap.size + 1, 4, none⟩ p).setCell ⟨w.heap.size + 1, 5, none⟩ q) := (hb.setCell (p := ⟨w.heap.size + 1, 4, none⟩) (by simp) _).setCell (p := ⟨w.heap.size + 1, 5, none⟩) (by simp) _
  have f1 : ((wr.setCell ⟨w.heap.size + 1, 4, none⟩ p).setCell ⟨w.heap.size + 1, 5, none⟩ q).heap[w.heap.size + 1]? = some (.cells #[.slice (some ⟨w.heap.size, 0, none⟩) (V + 1) (V + 1), .slice (some ⟨bt, 0, none⟩) (pre A V) (pre A V), .slice (some ⟨bl, 0, none⟩) (pre A V) (pre A V), .slice (some ⟨bb, 0, none⟩) (pre A V) (pre A V), p, q, .slice none 0 0] 31 (0, 0)) := by
    rw [heap_setCell (heap_setCell h.f)]; simp
  have k0 : ∀ i, i ≠ w.heap.size + 1 → ((wr.setCell ⟨w.heap.size + 1, 4, none⟩ p).setCell ⟨w.heap.size + 1, 5, none⟩ q).heap[i]? = wr.heap[i]? := fun i hi => by
    rw [Below.heap_setCell _ _ _ _ hi, Below.heap_setCell _ _ _ _ hi]
  generalize ((wr.setCell ⟨w.heap.size + 1, 4, none⟩ p).setCell ⟨w.heap.size + 1, 5, none⟩ q) = U at *
  obtain ⟨k, k1, k2⟩ := alloc2 U (.cells (rowN V fun _ => 0) 3) (.cells (rowN V fun _ => 0) 3) _ e0
  have hb2 : Below w.heap.size w ((U.alloc (.cells (rowN V fun _ => 0) 3)).alloc (.cells (rowN V fun _ => 0) 3)) := (b0.alloc (by omega) _).alloc (by rw [World.size_alloc]; omega) _
  have hs2 : ((U.alloc (.cells (rowN V fun _ => 0) 3)).alloc (.cells (rowN V fun _ => 0) 3)).heap.size = wr.heap.size + 2 := by rw [World.size_alloc, World.size_alloc, e0]
  generalize (U.alloc (.cells (rowN V fun _ => 0) 3)).alloc (.cells (rowN V fun _ => 0) 3) = Z at *
  subst hW
  have kk : ∀ i, i ≠ w.heap.size + 1 → i < w.heap.size + 6 → Z.heap[i]? = wr.heap[i]? := fun i h1 h2 => (k i (by omega)).trans (k0 i h1)
  have hfv : Z.heap[w.heap.size + 2]? = some (.cells #[.pointer (some ⟨w.heap.size + 1, 0, none⟩)] 27 (0, 0)) := (kk _ (by omega) (by omega)).trans h.fv
  have hnew : Z.heap[bv]? = some (.cells (rowN V fun _ => 0) 3 (0, 0)) ∧ Z.heap[bn]? = some (.cells (rowN V fun _ => 0) 3 (0, 0)) := by
    rcases hv with ⟨rfl, rfl⟩ | ⟨rfl, rfl⟩
    · exact ⟨k1, k2⟩
    · exact ⟨k2, k1⟩
  refine ⟨?_, ?_, ?_, ⟨?_, (kk w.heap.size (by omega) (by omega)).trans h.first, (kk bt (by omega) (by omega)).trans h.dst, (kk bl (by omega) (by omega)).trans h.left, (kk bb (by omega) (by omega)).trans h.back, hnew.1, hnew.2⟩, hb2.drew⟩
  · show Z.cell? ⟨w.heap.size + 2, 0, none⟩ = _
    simp [World.cell?, hfv]
  · constructor <;> (dsimp only; omega)
  · have e : Z.drew.heap.size = wr.heap.size + 2 := hs2
    rw [e]
    constructor <;> (dsimp only; omega)
  · rw [← hp1, ← hq1] at f1
    exact (k (w.heap.size + 1) (by omega)).trans f1
theorem kinds_zero (D : Dt) (L : List Ad) (j : Nat) : L ++ D.kinds j 0 = L := by simp [Dt.kinds]
theorem BW.cells45 {b : BB} {V E : Nat} {first dst back fill : Nat → Nat} {left : Nat → Int} {w : World} (h : BW b V E first dst back fill left w) : w.cell? ⟨b.F, 4, none⟩ = some (.slice none 0 0) ∧ w.cell? ⟨b.F, 5, none⟩ = some (.slice none 0 0) := by
  simp [World.cell?, h.f]
theorem add_step {b : BB} {V : Nat} {A P : List Ad} {dst back : Nat → Nat} {left : Nat → Int} (hd : b.Dis) (hV : V ≤ 1000) (hE : pre A V ≤ 1000000) (u v : Nat) (U Vv wd : Int) (hU : U = (u : Int)) (hVv : Vv = (v : Int)) (w : World)
    (hf : FI V A P dst back left) (h : BW b V (pre A V) (pre A) dst back (fun x => pre A x + cntA x P) left w) (hu : u < V) (hv : v < V) (huv : u ≠ v) (hp : Pre (P ++ [(u, v, wd)]) A) (hw1 : wd ≤ 9223372036854775807) (hw2 : -1099511627776 ≤ wd) :
    Calls Yba.prog 14 #[.int .i64 U, .int .i64 Vv, .int .i64 wd, .pointer (some ⟨b.iv, 0, none⟩), .pointer (some ⟨b.fv, 0, none⟩)] w fun x w' => x = .returned (.tuple #[]) ∧ ∃ dst' back' left', FI V A (P ++ [(u, v, wd)]) dst' back' left' ∧
      BW b V (pre A V) (pre A) dst' back' (fun x => pre A x + cntA x (P ++ [(u, v, wd)])) left' w' ∧ SameB b w w' := by
  subst hU hVv
  have cu : cntA u (P ++ [(u, v, wd)]) = cntA u P + 1 := by rw [cntA_append]; simp [cntA, one_self, one_ne (Ne.symm huv)]
  have cv : cntA v (P ++ [(u, v, wd)]) = cntA v P + 1 := by rw [cntA_append]; simp [cntA, one_self, one_ne huv]
  have cx : ∀ x, x ≠ u → x ≠ v → cntA x (P ++ [(u, v, wd)]) = cntA x P := fun x h1 h2 => by rw [cntA_append]; simp [cntA, one_ne (Ne.symm h1), one_ne (Ne.symm h2)]
  have h1 := hp.cnt u
  have h2 := hp.cnt v
  obtain ⟨hf', e1, e2, e3⟩ := hf.add hu hv huv (by omega) (by omega) hw1 hw2
  refine (add_any hd hV hE u v _ _ wd w h hu hv huv rfl rfl e1 e2).mono ?_
  rintro x w' ⟨rfl, hb, hs⟩
  refine ⟨rfl, _, _, _, hf', ?_, hs⟩
  have he : updN (updN (fun x => pre A x + cntA x P) u (pre A u + cntA u P + 1)) v (pre A v + cntA v P + 1) = fun x => pre A x + cntA x (P ++ [(u, v, wd)]) := by
    funext x
    by_cases e : x = v
    · subst e; rw [updN_same, cv]; omega
    · rw [updN_ne _ _ e]
      by_cases e0 : x = u
      · subst e0; rw [updN_same, cu]; omega
      · rw [updN_ne _ _ e0, cx x e0 e]
  rw [he] at hb
  exact hb

set_option maxRecDepth 100000 in
set_option maxHeartbeats 3200000 in
theorem newFlow_any (D : Dt) (hD : D.OK) (ww kb cb : Nat) (cw ck cc : Nat) (X : Nat → Option Addr) (XC : Nat → Nat) (w : World) (hin : NIn D ww kb cb X XC w) :
    Calls Yba.prog 5 #[.slice (some ⟨ww, 0, none⟩) D.n cw, .slice (some ⟨kb, 0, none⟩) D.n ck, .slice (some ⟨cb, 0, none⟩) D.k cc] w fun e w' => ∃ (B : Blk) (dst back : Nat → Nat) (left lev : Nat → Int) (nx : Nat → Nat),
      e = .returned (.pointer (some ⟨B.F, 0, none⟩)) ∧ FI D.V D.A D.A dst back left ∧ B.Dis ∧ B.Lt w'.heap.size ∧ FW B (netOf D.V D.A dst back left) lev left nx (.slice none 0 0) w' ∧ Below w.heap.size w w' ∧ (w.heap.size ≤ B.F ∧ w.heap.size ≤ B.bf ∧ w.heap.size ≤ B.bt ∧ w.heap.size ≤ B.bl ∧ w.heap.size ≤ B.bb ∧ w.heap.size ≤ B.bv ∧ w.heap.size ≤ B.bn) := by
  have hn := hD.n
  have hk := hD.k
  have HIN : Hid (NIn D ww kb cb X XC w) := hin
  have hmk : ∀ w : World, (Instr.makeSlice 26 (.int .i64 ((D.n : Int) + (D.k : Int) + 3)) (.int .i64 ((D.n : Int) + (D.k : Int) + 3))).run Yba.prog w = .ok (.slice (some ⟨w.heap.size, 0, none⟩) (D.V + 1) (D.V + 1)) (w.alloc (.cells (rowN (D.V + 1) fun _ => 0) 3)) := by
    intro w
    have h := run_make_n (P := Yba.prog) 26 3 _ _ _ Yba.underlying26 Yba.info3 (D.V + 1) (by unfold Dt.V; omega) (by unfold Dt.V; omega) w
    rw [made_row] at h
    rw [← h]
    unfold Dt.V
    simp
    congr 2 <;> omega
  have hV2 : D.V = D.n + D.k + 2 := rfl
  have HV2 : Hid (D.V = D.n + D.k + 2) := hV2
  have hV0 : ¬ D.V = 0 := by omega
  have hV3 : D.V ≤ 78 := by omega
  clear hin hV2
  go_enter Yba.func5, Yba.ntmps5
  go_wp2_with fail
  have hsw : SW w D.V (sh fun u => cntA u (D.A1 0)) (((w.alloc (Obj.cells (rowN (D.V + 1) fun x => 0) 3)).alloc (Obj.cells #[Value.slice (some ⟨w.heap.size, 0, none⟩) (D.V + 1) (D.V + 1), Value.slice none 0 0, Value.slice none 0 0, Value.slice none 0 0, Value.slice none 0 0, Value.slice none 0 0, Value.slice none 0 0] 31)).alloc (Obj.cells #[Value.pointer (some ⟨w.heap.size + 1, 0, none⟩)] 27)) := by
    refine SW.congr (g := fun _ => 0) ⟨(((Below.refl _ _).alloc (Nat.le_refl _) _).alloc (by simp) _).alloc (by simp; omega) _, by simp, ?_, ?_, ?_⟩ (fun x _ => by cases x <;> simp [sh, Dt.A1, cntA])
    · rw [Below.heap_alloc _ _ _ (by simp; omega), Below.heap_alloc _ _ _ (by simp), heap_alloc_new]
    · rw [Below.heap_alloc _ _ _ (by simp)]
      have h := heap_alloc_new (w.alloc (Obj.cells (rowN (D.V + 1) fun x => 0) 3)) (Obj.cells #[Value.slice (some ⟨w.heap.size, 0, none⟩) (D.V + 1) (D.V + 1), Value.slice none 0 0, Value.slice none 0 0, Value.slice none 0 0, Value.slice none 0 0, Value.slice none 0 0, Value.slice none 0 0] 31)
      rwa [World.size_alloc] at h
    · have h := heap_alloc_new ((w.alloc (Obj.cells (rowN (D.V + 1) fun x => 0) 3)).alloc (Obj.cells #[Value.slice (some ⟨w.heap.size, 0, none⟩) (D.V + 1) (D.V + 1), Value.slice none 0 0, Value.slice none 0 0, Value.slice none 0 0, Value.slice none 0 0, Value.slice none 0 0, Value.slice none 0 0] 31)) (Obj.cells #[Value.pointer (some ⟨w.heap.size + 1, 0, none⟩)] 27)
      rwa [World.size_alloc, World.size_alloc] at h
  have HSW : Hid (SW w D.V (sh fun u => cntA u (D.A1 0)) _) := hsw
  clear hsw hmk
  go_loopw [50] (fun i wr => ∃ (j : Nat), j ≤ D.n ∧ i = .int .i64 j ∧ SW w D.V (sh fun u => cntA u (D.A1 j)) wr) (fun i _ => D.n - (intOf i).toNat)
  case atStart => exact ⟨0, Nat.zero_le _, rfl, HSW.out⟩
  case round =>
    obtain ⟨j, hj, rfl, hsw⟩ := hrel
    have HSR : Hid (SW w D.V (sh fun u => cntA u (D.A1 j)) wr) := hsw
    have hin := HIN.out.below hsw.below
    have hdl : ∀ u, cntA u (D.A1 j) ≤ 792 := fun u => by
      have h1 := cntA_le u (D.A1 j)
      have h2 := D.len1 hD j hj
      omega
    have hszr := hsw.size
    clear hsw
    by_cases hjn : j < D.n
    · have hjn' : (j : Int) < (D.n : Int) := by omega
      have c1 := hin.k j hjn
      have c2 := cell_rowN HSR.out.first (show 0 + 1 < D.V + 1 by omega)
      have hb1 : 1 + (j : Int) < (D.V : Int) := by have := HV2.out; omega
      have hb2 : 1 + j < D.V := by omega
      have c3 := cell_rowN HSR.out.first (show 1 + (1 + j) < D.V + 1 by omega)
      rw [sh1] at c3
      have z1 := frozen_row HSR.out.first
      have hmj := hD.m j hjn
      have hd0 := hdl 0
      have hd1 := hdl (1 + j)
      simp only [sh, Nat.zero_add] at c2
      go_wp2_with fail
      have hsw2 : SW w D.V (sh fun u => dT D j u 0) ((wr.setCell ⟨w.heap.size, 1, none⟩ (.int .i64 ((cntA 0 (D.A1 j) : Int) + 1))).setCell ⟨w.heap.size, 1 + (1 + j), none⟩ (.int .i64 ((cntA (1 + j) (D.A1 j) : Int) + (1 + (D.m j : Int))))) :=
        ((HSR.out.set (x := 1) (by omega) (cntA 0 (D.A1 j) + 1)).set (x := 1 + (1 + j)) (by omega) (cntA (1 + j) (D.A1 j) + (1 + D.m j))).congr (fun x _ => dT_start D j x)
      have HS2 : Hid (SW w D.V (sh fun u => dT D j u 0) _) := hsw2
      clear c1 c2 c3 z1 hsw2
      go_loopw [73] (fun i wr => ∃ (t : Nat), t ≤ D.m j ∧ i = .int .i64 t ∧ SW w D.V (sh fun u => dT D j u t) wr) (fun i _ => D.m j - (intOf i).toNat)
      case atStart => exact ⟨0, Nat.zero_le _, rfl, HS2.out⟩
      case round =>
        clear HS2 HSR hin hszr
        obtain ⟨t, ht, rfl, hsw⟩ := hrel
        have HSR : Hid (SW w D.V (sh fun u => dT D j u t) wr) := hsw
        have hin := HIN.out.below hsw.below
        clear hsw
        by_cases htm : t < D.m j
        · rcases hin.ks j hjn with h0 | ⟨b, hX, hbl, hbc⟩
          · omega
          have c1 := hbc t htm
          have hkd := hD.kd j t hjn htm
          have htm' : (t : Int) < (D.m j : Int) := by omega
          have hb3 : 1 + (D.n : Int) + (D.kd j t : Int) < (D.V : Int) := by have := HV2.out; omega
          have hb4 : 1 + D.n + D.kd j t < D.V := by omega
          have c2 := cell_rowN HSR.out.first (show 1 + (1 + D.n + D.kd j t) < D.V + 1 by omega)
          rw [sh1] at c2
          have z1 := frozen_row HSR.out.first
          have hd2 : dT D j (1 + D.n + D.kd j t) t ≤ 900 := by
            have h1 := hdl (1 + D.n + D.kd j t)
            have h2 := cK_le D j (1 + D.n + D.kd j t) t
            have h3 := one_le 0 (1 + D.n + D.kd j t)
            have h4 : one (1 + j) (1 + D.n + D.kd j t) = 0 := one_ne (by omega)
            unfold dT
            rw [h4]
            omega
          rw [hX]
          clear hbc hin
          go_wp2_with fail
          go_roundw
          case rel => exact ⟨t + 1, by omega, by go_num, (HSR.out.set (x := 1 + (1 + D.n + D.kd j t)) (by omega) (dT D j (1 + D.n + D.kd j t) t + 1)).congr (fun x _ => dT_step D j t x)⟩
          case measure => simp [intOf]; omega
        · have ht2 : t = D.m j := by omega
          subst ht2
          go_wp2_with fail
          go_roundw
          case rel => exact ⟨j + 1, by omega, by go_num, HSR.out.congr (fun x _ => dT_end D j x)⟩
          case measure => simp [intOf]; omega
    · have hjn2 : j = D.n := by omega
      subst hjn2
      go_wp2_with fail
      go_loopw [90] (fun i wr => ∃ (j : Nat), j ≤ D.k ∧ i = .int .i64 j ∧ SW w D.V (sh fun u => cntA u (D.A1 D.n ++ D.ends j)) wr) (fun i _ => D.k - (intOf i).toNat)
      case atStart => exact ⟨0, Nat.zero_le _, rfl, HSR.out.congr (fun x _ => by rw [ends_zero])⟩
      case round =>
        clear HSR hin hszr HSW hdl
        obtain ⟨i, hi, rfl, hsw⟩ := hrel
        have HSR : Hid (SW w D.V (sh fun u => cntA u (D.A1 D.n ++ D.ends i)) wr) := hsw
        clear hsw
        by_cases hik : i < D.k
        · have hik' : (i : Int) < (D.k : Int) := by omega
          have hb1 : 1 + (D.n : Int) + (i : Int) < (D.V : Int) := by have := HV2.out; omega
          have hb2 : 1 + D.n + i < D.V := by omega
          have hb3 : (D.n : Int) + (D.k : Int) + 1 < (D.V : Int) := by have := HV2.out; omega
          have hb4 : D.n + D.k + 1 < D.V := by omega
          have c2 := cell_rowN HSR.out.first (show 1 + (1 + D.n + i) < D.V + 1 by omega)
          have c3 := cell_rowN HSR.out.first (show 1 + (D.n + D.k + 1) < D.V + 1 by omega)
          rw [sh1] at c2 c3
          have z1 := frozen_row HSR.out.first
          have hd2 := cntEnds_le D hD (1 + D.n + i) hi
          have hd3 := cntEnds_le D hD (D.n + D.k + 1) hi
          have hne : ¬ D.n + D.k + 1 = 1 + D.n + i := by omega
          go_wp2_with fail
          go_roundw
          case rel => exact ⟨i + 1, by omega, by go_num, ((HSR.out.set (x := 1 + (1 + D.n + i)) (by omega) (cntA (1 + D.n + i) (D.A1 D.n ++ D.ends i) + 1)).set (x := 1 + (D.n + D.k + 1)) (by omega) (cntA (D.n + D.k + 1) (D.A1 D.n ++ D.ends i) + 1)).congr (fun x _ => ends_step D hik x)⟩
          case measure => simp [intOf]; omega
        · have hi2 : i = D.k := by omega
          subst hi2
          go_wp2_with fail
          go_loopw [18] (fun i wr => ∃ (v : Nat), v ≤ D.V ∧ i = .int .i64 ((v : Int) + 1) ∧ SW w D.V (run D v) wr) (fun i _ => D.V + 2 - (intOf i).toNat)
          case atStart => exact ⟨0, Nat.zero_le _, rfl, HSR.out.congr (fun x _ => (run_zero D x).symm)⟩
          case round =>
            clear HSR
            obtain ⟨v, hv, rfl, hsw⟩ := hrel
            have HSR : Hid (SW w D.V (run D v) wr) := hsw
            obtain ⟨g0, g1⟩ := hsw.cells
            clear hsw
            by_cases hvV : v < D.V
            · have hv1 : (v : Int) + 1 < (D.V : Int) + 1 := by omega
              have hv2 : v + 1 < D.V + 1 := by omega
              have c2 := cell_rowN HSR.out.first (show v + 1 < D.V + 1 by omega)
              have c3 := cell_rowN HSR.out.first (show v < D.V + 1 by omega)
              have z1 := frozen_row HSR.out.first
              rw [run_lo D (Nat.le_refl v)] at c3
              rw [run_hi] at c2
              have hd2 := cntA_le v D.A
              have hd3 := D.len hD
              have hd4 := Nat.le_trans (pre_mono D.A hv) (D.E_le hD)
              have hsub : (v : Int) + 1 - 1 = (v : Int) := by omega
              go_wp2_with fail
              go_region
              go_wp2_with fail
              go_roundw
              case rel => exact ⟨v + 1, by omega, by go_num, ((HSR.out.set hv2 (cntA v D.A + pre D.A v)).drew1).congr (fun x _ => run_step D v x)⟩
              case measure => simp [intOf]; omega
            · have hv2 : v = D.V := by omega
              subst hv2
              have hsub : (D.V : Int) + 1 - 1 = (D.V : Int) := by omega
              have c3 := cell_rowN HSR.out.first (show D.V < D.V + 1 by omega)
              rw [run_lo D (Nat.le_refl _)] at c3
              have hlt : (D.V : Int) < (D.V : Int) + 1 := by omega
              go_wp2_with fail
              go_quiet (fail)
              have hEl := D.E_le hD
              have hmk1 : ∀ w : World, (Instr.makeSlice 26 (.int .i64 (pre D.A D.V : Int)) (.int .i64 (pre D.A D.V : Int))).run Yba.prog w = .ok (.slice (some ⟨w.heap.size, 0, none⟩) (pre D.A D.V) (pre D.A D.V)) (w.alloc (.cells (rowN (pre D.A D.V) fun _ => 0) 3)) := by
                intro w
                have h := run_make_n (P := Yba.prog) 26 3 _ _ _ Yba.underlying26 Yba.info3 (pre D.A D.V) (by omega) (by omega) w
                rwa [made_row] at h
              have hmk2 : ∀ w : World, (Instr.makeSlice 22 (.int .i64 (pre D.A D.V : Int)) (.int .i64 (pre D.A D.V : Int))).run Yba.prog w = .ok (.slice (some ⟨w.heap.size, 0, none⟩) (pre D.A D.V) (pre D.A D.V)) (w.alloc (.cells (row (pre D.A D.V) fun _ => 0) 2)) := by
                intro w
                have h := run_make_n (P := Yba.prog) 22 2 _ _ _ Yba.underlying22 Yba.info2 (pre D.A D.V) (by omega) (by omega) w
                rwa [made_row2] at h
              have hs3 := (HSR.out.drewN nq).congr (g' := pre D.A) (fun x hx => run_lo D (by omega))
              clear c3 g0 g1 HSR
              generalize wr.drewN nq = W3 at *
              obtain ⟨g0, g1⟩ := hs3.cells
              have z1 := frozen_row hs3.f
              have HS3 : Hid (SW w D.V (pre D.A) W3) := hs3
              have hsz : W3.heap.size = w.heap.size + 1 + 1 + 1 := hs3.size
              have g2 := hs3.cellsF
              clear hs3
              go_upto_region 27 with fail
              go_cut [] from 147 to 161 (fun wc => ∃ bt bl bb, TW w D.V (pre D.A D.V) (pre D.A) bt bl bb wc)
              case first =>
                go_region
                all_goals go_wp2_with fail
                all_goals go_meet
                all_goals exact ⟨_, _, _, three_makes HS3.out _ _ _ _ _ _ (by omega) (fun W h1 h2 h3 => by first | exact ⟨h1, h2, h3⟩ | exact ⟨h1, h3, h2⟩ | exact ⟨h2, h1, h3⟩ | exact ⟨h2, h3, h1⟩ | exact ⟨h3, h1, h2⟩ | exact ⟨h3, h2, h1⟩)⟩
              case rest =>
              clear HS3 g0 g1 z1 hsz g2
              obtain ⟨bt, bl, bb, htw⟩ := hcut
              have HT : Hid (TW w D.V (pre D.A D.V) (pre D.A) bt bl bb wc) := htw
              clear htw
              go_upto_region 28 with fail
              obtain ⟨i0, hi, hz0, hz1, hz2⟩ := info_parts Yba.info3
              have hsz6 : w.heap.size + 6 ≤ wc.heap.size := HT.out.size
              go_cut [20] from 162 to 173 (fun t wx => ∃ iv bi icap, t = .pointer (some ⟨iv, 0, none⟩) ∧ BW ⟨iv, w.heap.size + 2, w.heap.size + 1, w.heap.size, bt, bl, bb, bi, icap⟩ D.V (pre D.A D.V) (pre D.A) (fun _ => 0) (fun _ => 0) (pre D.A) (fun _ => 0) wx ∧ w.heap.size + 6 ≤ iv ∧ w.heap.size + 6 ≤ bi ∧ iv ≠ bi ∧ Below w.heap.size w wx ∧ w.heap.size + 6 ≤ wx.heap.size)
              case first =>
                have hle1 : (0 : Int) ≤ (D.V : Int) := by omega
                have hle2 : (D.V : Int) ≤ (D.V : Int) + 1 := by omega
                have hle4 : ¬ (D.V : Int) + 1 < (D.V : Int) := by omega
                have hw2 : IntKind.i64.wrap (D.V : Int) = (D.V : Int) := IntWalk.i64_in _ (by omega)
                have hw1 : IntKind.i64.wrap ((D.V : Int) + 1 - 1) = (D.V : Int) := by rw [hsub, hw2]
                have hsl : ∀ w' : World, (Instr.slice 26 (.slice (some ⟨w.heap.size, 0, none⟩) (D.V + 1) (D.V + 1)) none (some (.int .i64 (D.V : Int))) none).run Yba.prog w' = .ok (.slice (some ⟨w.heap.size, 0, none⟩) D.V (D.V + 1)) w' := by
                  intro w'
                  simp [Instr.slice, go_sem]
                  intro h; omega
                have hgn1 : ∀ w1 : World, (wc.drew.alloc (.cells #[.slice none 0 0] 26)).grownBy w1 none → w1.cell? ⟨wc.heap.size, 0, none⟩ = some (.slice none 0 0) := fun w1 h => (grown_new h).2.1
                have hgn2 : ∀ w1 : World, (wc.drew.alloc (.cells #[.slice none 0 0] 26)).grownBy w1 none → w1.frozen? ⟨wc.heap.size, 0, none⟩ = false := fun w1 h => (grown_new h).2.2
                have hgn3 : ∀ w1 : World, (wc.alloc (.cells #[.slice none 0 0] 26)).drew.grownBy w1 none → w1.cell? ⟨wc.heap.size, 0, none⟩ = some (.slice none 0 0) := hgn1
                have hgn4 : ∀ w1 : World, (wc.alloc (.cells #[.slice none 0 0] 26)).drew.grownBy w1 none → w1.frozen? ⟨wc.heap.size, 0, none⟩ = false := hgn2
                go_region_held3 (fun w' => w'.cell? ⟨w.heap.size + 1 + 1, 0, none⟩ = some (.pointer (some ⟨w.heap.size + 1, 0, none⟩)) ∧ w'.cell? ⟨w.heap.size + 1, 0, none⟩ = some (.slice (some ⟨w.heap.size, 0, none⟩) (D.V + 1) (D.V + 1)) ∧ TW w D.V (pre D.A D.V) (pre D.A) bt bl bb w')
                  (first | exact HT.out.drew.three | exact keep_grow (by assumption) (by assumption) | exact keep_alloc (by assumption) _ | exact keep_set (by assumption) (by omega) _ _ | exact ((HT.out.drew.grow (by assumption)).alloc _).three)
                  ((refine step_append_lies _ rfl (.const (.slice none 0 0)) (.tmp 172) 26 rfl (w.heap.size + 6) 3 i0 (.int .i64 0) 1 8 Yba.underlying26 hi hz0 hz1 hz2 rfl (by decide) (.slice none 0 0) 0 [] rfl (World.ownsRow_nil _ _ _ _) ⟨w.heap.size, 0, none⟩ D.V (D.V + 1) (firsts (pre D.A) D.V) (by rfl) (by simp [firsts]) (keep_news (by assumption)) firsts_one (by omega) (by unfold maxLen; omega) (by omega) (keep_size (by assumption)) _ rfl ?_; intro g cap w1 hown hgrow hat hlt; replace hgrow : World.grownBy _ w1 none := hgrow; simp only [Nat.zero_add, List.nil_append] at hown; rw [Nat.zero_add]))
                · go_wp2_with fail
                  go_meet
                  exact bw_one HT.out hgrow hown hlt
                · go_wp2_with fail
                  go_meet
                  exact bw_two HT.out hgrow hown hat
              case rest =>
              obtain ⟨iv, bi, icap, rfl, hbw, hiv, hbi, hne, hbel, hsz⟩ := hcut
              have HD : Hid (BB.Dis ⟨iv, w.heap.size + 2, w.heap.size + 1, w.heap.size, bt, bl, bb, bi, icap⟩) := HT.out.dis hiv hbi hne
              have HR : Hid ((w.heap.size + 3 ≤ bt ∧ bt < w.heap.size + 6) ∧ (w.heap.size + 3 ≤ bl ∧ bl < w.heap.size + 6) ∧ (w.heap.size + 3 ≤ bb ∧ bb < w.heap.size + 6) ∧ bt ≠ bl ∧ bt ≠ bb ∧ bl ≠ bb) := ⟨HT.out.ht, HT.out.hl, HT.out.hb, HT.out.tl, HT.out.tb, HT.out.lb⟩
              have HBW : Hid (BW ⟨iv, w.heap.size + 2, w.heap.size + 1, w.heap.size, bt, bl, bb, bi, icap⟩ D.V (pre D.A D.V) (pre D.A) (fun _ => 0) (fun _ => 0) (pre D.A) (fun _ => 0) wc) := hbw
              have HBL : Hid (∀ x, SameB ⟨iv, w.heap.size + 2, w.heap.size + 1, w.heap.size, bt, bl, bb, bi, icap⟩ wc x → Below w.heap.size w x) := fun x hx => same_below hbel hx (by have := HR.out; show w.heap.size ≤ bt; omega) (by have := HR.out; show w.heap.size ≤ bl; omega) (by have := HR.out; show w.heap.size ≤ bb; omega) (by show w.heap.size ≤ bi; omega)
              clear HT hbw hbel hsz6 hlt
              go_wp2_with fail
              go_loopw [177] (fun i wr => ∃ (j : Nat) (dst back : Nat → Nat) (left : Nat → Int), j ≤ D.n ∧ i = .int .i64 j ∧ FI D.V D.A (D.A1 j) dst back left ∧ BW ⟨iv, w.heap.size + 2, w.heap.size + 1, w.heap.size, bt, bl, bb, bi, icap⟩ D.V (pre D.A D.V) (pre D.A) dst back (fun x => pre D.A x + cntA x (D.A1 j)) left wr ∧ SameB ⟨iv, w.heap.size + 2, w.heap.size + 1, w.heap.size, bt, bl, bb, bi, icap⟩ wc wr) (fun i _ => D.n - (intOf i).toNat)
              case atStart => exact ⟨0, fun _ => 0, fun _ => 0, fun _ => 0, Nat.zero_le _, rfl, FI.nil _ _ _ _ _, HBW.out, SameB.refl⟩
              case round =>
                obtain ⟨j, dst, back, left, hj, rfl, hfi, hbw, hsm⟩ := hrel
                have HFI : Hid (FI D.V D.A (D.A1 j) dst back left) := hfi
                have HB1 : Hid (BW ⟨iv, w.heap.size + 2, w.heap.size + 1, w.heap.size, bt, bl, bb, bi, icap⟩ D.V (pre D.A D.V) (pre D.A) dst back (fun x => pre D.A x + cntA x (D.A1 j)) left wr) := hbw
                have HSM : Hid (SameB ⟨iv, w.heap.size + 2, w.heap.size + 1, w.heap.size, bt, bl, bb, bi, icap⟩ wc wr) := hsm
                have hin := HIN.out.below (HBL.out _ hsm)
                clear hfi hbw hsm
                by_cases hjn : j < D.n
                · have hjn' : (j : Int) < (D.n : Int) := by omega
                  have c1 := hin.k j hjn
                  have c2 := hin.ws j hjn
                  have hwj := hD.w j hjn
                  go_wp2_with fail
                  refine (add_step HD.out (by omega) (by omega) 0 (1 + j) _ _ (D.w j) (by simp) (by simp) _ HFI.out HB1.out (by omega) (by have := HV2.out; omega) (by omega) (D.pre1 hjn) (by omega) (by omega)).mono ?_
                  rintro e w1 ⟨rfl, dst1, back1, left1, hf1, hb1, hs1⟩
                  have HF1 : Hid (FI D.V D.A (D.A1 j ++ [(0, 1 + j, D.w j)]) dst1 back1 left1) := hf1
                  have HB2 : Hid (BW ⟨iv, w.heap.size + 2, w.heap.size + 1, w.heap.size, bt, bl, bb, bi, icap⟩ D.V (pre D.A D.V) (pre D.A) dst1 back1 (fun x => pre D.A x + cntA x (D.A1 j ++ [(0, 1 + j, D.w j)])) left1 w1) := hb1
                  have HS2 : Hid (SameB ⟨iv, w.heap.size + 2, w.heap.size + 1, w.heap.size, bt, bl, bb, bi, icap⟩ wc w1) := HSM.out.trans hs1
                  clear hf1 hb1 hs1 HFI HB1 HSM c1 c2 hin
                  go_wp2_with fail
                  go_loopw [193] (fun i wr => ∃ (t : Nat) (dst back : Nat → Nat) (left : Nat → Int), t ≤ D.m j ∧ i = .int .i64 t ∧ FI D.V D.A (D.A1 j ++ [(0, 1 + j, D.w j)] ++ D.kinds j t) dst back left ∧ BW ⟨iv, w.heap.size + 2, w.heap.size + 1, w.heap.size, bt, bl, bb, bi, icap⟩ D.V (pre D.A D.V) (pre D.A) dst back (fun x => pre D.A x + cntA x (D.A1 j ++ [(0, 1 + j, D.w j)] ++ D.kinds j t)) left wr ∧ SameB ⟨iv, w.heap.size + 2, w.heap.size + 1, w.heap.size, bt, bl, bb, bi, icap⟩ wc wr) (fun i _ => D.m j - (intOf i).toNat)
                  case atStart =>
                    refine ⟨0, dst1, back1, left1, Nat.zero_le _, rfl, ?_, ?_, HS2.out⟩
                    · rw [kinds_zero]; exact HF1.out
                    · rw [kinds_zero]; exact HB2.out
                  case round =>
                    clear HF1 HB2 HS2
                    obtain ⟨t, dst, back, left, ht, rfl, hfi, hbw, hsm⟩ := hrel
                    have HFI : Hid (FI D.V D.A (D.A1 j ++ [(0, 1 + j, D.w j)] ++ D.kinds j t) dst back left) := hfi
                    have HB1 : Hid (BW ⟨iv, w.heap.size + 2, w.heap.size + 1, w.heap.size, bt, bl, bb, bi, icap⟩ D.V (pre D.A D.V) (pre D.A) dst back (fun x => pre D.A x + cntA x (D.A1 j ++ [(0, 1 + j, D.w j)] ++ D.kinds j t)) left wr) := hbw
                    have HSM : Hid (SameB ⟨iv, w.heap.size + 2, w.heap.size + 1, w.heap.size, bt, bl, bb, bi, icap⟩ wc wr) := hsm
                    have hin := HIN.out.below (HBL.out _ hsm)
                    clear hfi hbw hsm
                    have hmj := hD.m j hjn
                    by_cases htm : t < D.m j
                    · rcases hin.ks j hjn with h0 | ⟨b, hX, hbl, hbc⟩
                      · omega
                      have c1 := hbc t htm
                      have hkd := hD.kd j t hjn htm
                      have htm' : (t : Int) < (D.m j : Int) := by omega
                      rw [hX]
                      clear hbc hin
                      go_wp2_with fail
                      refine (add_step HD.out (by omega) (by omega) (1 + j) (1 + D.n + D.kd j t) _ _ 9223372036854775807 (by simp) (by simp) _ HFI.out HB1.out (by have := HV2.out; omega) (by have := HV2.out; omega) (by omega) (by rw [List.append_assoc, ← D.kinds_succ]; exact D.pre2 hjn htm) (by omega) (by omega)).mono ?_
                      rintro e w1 ⟨rfl, dst1, back1, left1, hf1, hb1, hs1⟩
                      have HF1 : Hid (FI D.V D.A (D.A1 j ++ [(0, 1 + j, D.w j)] ++ D.kinds j (t + 1)) dst1 back1 left1) := by rw [D.kinds_succ, ← List.append_assoc]; exact hf1
                      have HB2 : Hid (BW ⟨iv, w.heap.size + 2, w.heap.size + 1, w.heap.size, bt, bl, bb, bi, icap⟩ D.V (pre D.A D.V) (pre D.A) dst1 back1 (fun x => pre D.A x + cntA x (D.A1 j ++ [(0, 1 + j, D.w j)] ++ D.kinds j (t + 1))) left1 w1) := by rw [D.kinds_succ, ← List.append_assoc]; exact hb1
                      have HS2 : Hid (SameB ⟨iv, w.heap.size + 2, w.heap.size + 1, w.heap.size, bt, bl, bb, bi, icap⟩ wc w1) := HSM.out.trans hs1
                      clear hf1 hb1 hs1 HFI HB1 HSM c1
                      go_wp2_with fail
                      go_roundw
                      case rel => exact ⟨t + 1, dst1, back1, left1, by omega, by go_num, HF1.out, HB2.out, HS2.out⟩
                      case measure => simp [intOf]; omega
                    · have ht2 : t = D.m j := by omega
                      subst ht2
                      go_wp2_with fail
                      go_roundw
                      case rel => exact ⟨j + 1, dst, back, left, by omega, by go_num, HFI.out, HB1.out, HSM.out⟩
                      case measure => simp [intOf]; omega
                · have hjn3 : j = D.n := by omega
                  subst hjn3
                  clear hin HBW
                  go_wp2_with fail
                  go_loopw [209] (fun i wr => ∃ (j : Nat) (dst back : Nat → Nat) (left : Nat → Int), j ≤ D.k ∧ i = .int .i64 j ∧ FI D.V D.A (D.A1 D.n ++ D.ends j) dst back left ∧ BW ⟨iv, w.heap.size + 2, w.heap.size + 1, w.heap.size, bt, bl, bb, bi, icap⟩ D.V (pre D.A D.V) (pre D.A) dst back (fun x => pre D.A x + cntA x (D.A1 D.n ++ D.ends j)) left wr ∧ SameB ⟨iv, w.heap.size + 2, w.heap.size + 1, w.heap.size, bt, bl, bb, bi, icap⟩ wc wr) (fun i _ => D.k - (intOf i).toNat)
                  case atStart =>
                    refine ⟨0, dst, back, left, Nat.zero_le _, rfl, ?_, ?_, HSM.out⟩
                    · rw [ends_zero]; exact HFI.out
                    · rw [ends_zero]; exact HB1.out
                  case round =>
                    clear HFI HB1 HSM
                    obtain ⟨i, dst, back, left, hi, rfl, hfi, hbw, hsm⟩ := hrel
                    have HFI : Hid (FI D.V D.A (D.A1 D.n ++ D.ends i) dst back left) := hfi
                    have HB1 : Hid (BW ⟨iv, w.heap.size + 2, w.heap.size + 1, w.heap.size, bt, bl, bb, bi, icap⟩ D.V (pre D.A D.V) (pre D.A) dst back (fun x => pre D.A x + cntA x (D.A1 D.n ++ D.ends i)) left wr) := hbw
                    have HSM : Hid (SameB ⟨iv, w.heap.size + 2, w.heap.size + 1, w.heap.size, bt, bl, bb, bi, icap⟩ wc wr) := hsm
                    have hin := HIN.out.below (HBL.out _ hsm)
                    clear hfi hbw hsm
                    by_cases hik : i < D.k
                    · have hik' : (i : Int) < (D.k : Int) := by omega
                      have c1 := hin.c i hik
                      have hci := hD.c i hik
                      clear hin
                      go_wp2_with fail
                      refine (add_step HD.out (by omega) (by omega) (1 + D.n + i) (D.n + D.k + 1) _ _ (D.c i) (by simp) (by simp) _ HFI.out HB1.out (by have := HV2.out; omega) (by have := HV2.out; omega) (by omega) (by rw [List.append_assoc, ← D.ends_succ]; exact D.pre3 hik) (by omega) (by omega)).mono ?_
                      rintro e w1 ⟨rfl, dst1, back1, left1, hf1, hb1, hs1⟩
                      have HF1 : Hid (FI D.V D.A (D.A1 D.n ++ D.ends (i + 1)) dst1 back1 left1) := by rw [D.ends_succ, ← List.append_assoc]; exact hf1
                      have HB2 : Hid (BW ⟨iv, w.heap.size + 2, w.heap.size + 1, w.heap.size, bt, bl, bb, bi, icap⟩ D.V (pre D.A D.V) (pre D.A) dst1 back1 (fun x => pre D.A x + cntA x (D.A1 D.n ++ D.ends (i + 1))) left1 w1) := by rw [D.ends_succ, ← List.append_assoc]; exact hb1
                      have HS2 : Hid (SameB ⟨iv, w.heap.size + 2, w.heap.size + 1, w.heap.size, bt, bl, bb, bi, icap⟩ wc w1) := HSM.out.trans hs1
                      clear hf1 hb1 hs1 HFI HB1 HSM c1
                      go_wp2_with fail
                      go_roundw
                      case rel => exact ⟨i + 1, dst1, back1, left1, by omega, by go_num, HF1.out, HB2.out, HS2.out⟩
                      case measure => simp [intOf]; omega
                    · have hi2 : i = D.k := by omega
                      subst hi2
                      have hszr : wc.heap.size = wr.heap.size := HSM.out.size
                      obtain ⟨g0, g1, g2, -⟩ := HB1.out.cells
                      have g3 := HB1.out.cells45
                      have z1 := frozen_row HB1.out.f
                      dsimp only at g0 g1 g2 g3 z1
                      clear hin
                      have hl1 : w.heap.size + 1 < wr.heap.size := by omega
                      have hl2 : w.heap.size + 1 + 1 < wr.heap.size := by omega
                      have hl3 : w.heap.size + 2 < wr.heap.size := by omega
                      have hl4 : ¬ w.heap.size + 1 = wr.heap.size := by omega
                      have hl5 : ¬ w.heap.size = wr.heap.size := by omega
                      have hl7 : w.heap.size < wr.heap.size := by omega
                      have hl8 : w.heap.size + 1 < wr.heap.size + 1 := by omega
                      have hl6 : ¬ w.heap.size + 2 = wr.heap.size := by omega
                      have hw2 : IntKind.i64.wrap (D.V : Int) = (D.V : Int) := IntWalk.i64_in _ (by omega)
                      have hmk3 : ∀ w : World, (Instr.makeSlice 26 (.int .i64 (D.V : Int)) (.int .i64 (D.V : Int))).run Yba.prog w = .ok (.slice (some ⟨w.heap.size, 0, none⟩) D.V D.V) (w.alloc (.cells (rowN D.V fun _ => 0) 3)) := by
                        intro w
                        have h := run_make_n (P := Yba.prog) 26 3 _ _ _ Yba.underlying26 Yba.info3 D.V (by omega) (by omega) w
                        rwa [made_row] at h
                      go_wp2_with fail
                      go_region
                      · generalize hW : World.drew _ = W
                        have HQ : Hid _ := two_makes (wr.heap.size) (wr.heap.size + 1) HB1.out (HBL.out _ HSM.out) HR.out (by omega) (.inl ⟨rfl, rfl⟩) W hW.symm
                        have q1 := HQ.out.1
                        clear hW g0 g1 g2 g3 z1
                        go_wp2_with fail
                        go_ret
                        exact ⟨⟨w.heap.size + 1, w.heap.size, bt, bl, bb, wr.heap.size, wr.heap.size + 1⟩, dst, back, left, _, _, rfl, HFI.out, HQ.out.2.1, HQ.out.2.2.1, HQ.out.2.2.2.1, HQ.out.2.2.2.2, by have := HR.out; dsimp only; omega⟩
                      · generalize hW : World.drew _ = W
                        have HQ : Hid _ := two_makes (wr.heap.size + 1) (wr.heap.size) HB1.out (HBL.out _ HSM.out) HR.out (by omega) (.inr ⟨rfl, rfl⟩) W hW.symm
                        have q1 := HQ.out.1
                        clear hW g0 g1 g2 g3 z1
                        go_wp2_with fail
                        go_ret
                        exact ⟨⟨w.heap.size + 1, w.heap.size, bt, bl, bb, wr.heap.size + 1, wr.heap.size⟩, dst, back, left, _, _, rfl, HFI.out, HQ.out.2.1, HQ.out.2.2.1, HQ.out.2.2.2.1, HQ.out.2.2.2.2, by have := HR.out; dsimp only; omega⟩
end Go.Proofs.Ybulkdxng.D
