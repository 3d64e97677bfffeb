import Derived.Test.YbulkdxngU
namespace Go.Proofs.Ybulkdxng.D
set_option linter.unusedVariables false

/-! ### The plain build -/
abbrev Ad := Nat × Nat × Int
def one (a b : Nat) : Nat := if a = b then 1 else 0
def cntA (u : Nat) : List Ad → Nat
  | [] => 0
  | a :: L => one a.1 u + one a.2.1 u + cntA u L
theorem cntA_append (u : Nat) (L M : List Ad) : cntA u (L ++ M) = cntA u L + cntA u M := by
  induction L with
  | nil => simp [cntA]
  | cons a L ih => simp only [List.cons_append, cntA, ih]; omega
theorem cntA_le (u : Nat) (L : List Ad) : cntA u L ≤ 2 * L.length := by
  induction L with
  | nil => exact Nat.le_refl _
  | cons a L ih =>
    simp only [cntA, List.length_cons, one]
    split <;> split <;> omega
def sumA (H : Nat → Nat → Int → Int) : List Ad → Int
  | [] => 0
  | a :: L => H a.1 a.2.1 a.2.2 + H a.2.1 a.1 0 + sumA H L
theorem sumA_append (H : Nat → Nat → Int → Int) (L M : List Ad) : sumA H (L ++ M) = sumA H L + sumA H M := by
  induction L with
  | nil => simp [sumA]
  | cons a L ih => simp only [List.cons_append, sumA, ih]; omega
def pre (L : List Ad) : Nat → Nat
  | 0 => 0
  | v + 1 => pre L v + cntA v L
theorem pre_mono (L : List Ad) {a b : Nat} (h : a ≤ b) : pre L a ≤ pre L b := by
  induction b with
  | zero => have : a = 0 := by omega
            subst this; exact Nat.le_refl _
  | succ b ih =>
    by_cases e : a = b + 1
    · subst e; exact Nat.le_refl _
    · have := ih (by omega)
      simp only [pre]; omega
theorem pre_le (L : List Ad) : ∀ v, pre L v ≤ v * (2 * L.length)
  | 0 => by simp [pre]
  | v + 1 => by
    have := pre_le L v
    have := cntA_le v L
    simp only [pre, Nat.add_mul]
    omega
def ownF (L : List Ad) : Nat → Nat → Nat
  | 0, _ => 0
  | v + 1, e => if pre L v ≤ e then v else ownF L v e
theorem ownF_spec (L : List Ad) : ∀ V e, e < pre L V → ownF L V e < V ∧ pre L (ownF L V e) ≤ e ∧ e < pre L (ownF L V e + 1)
  | 0, e, h => by simp [pre] at h
  | V + 1, e, h => by
    unfold ownF
    by_cases h1 : pre L V ≤ e
    · rw [if_pos h1]
      exact ⟨by omega, h1, h⟩
    · rw [if_neg h1]
      obtain ⟨a, b, c⟩ := ownF_spec L V e (by omega)
      exact ⟨by omega, b, c⟩
theorem ownF_eq (L : List Ad) {V e u : Nat} (hu : u < V) (h1 : pre L u ≤ e) (h2 : e < pre L (u + 1)) : ownF L V e = u := by
  have hV : e < pre L V := Nat.lt_of_lt_of_le h2 (pre_mono L (by omega))
  obtain ⟨a, b, c⟩ := ownF_spec L V e hV
  rcases Nat.lt_trichotomy (ownF L V e) u with h | h | h
  · have := pre_mono L (show ownF L V e + 1 ≤ u by omega); omega
  · exact h
  · have := pre_mono L (show u + 1 ≤ ownF L V e by omega); omega

/-- the slots after the adds of the prefix P; A: all adds; V nodes -/
structure FI (V : Nat) (A P : List Ad) (dst back : Nat → Nat) (left : Nat → Int) : Prop where
  to_lt : ∀ e, e < pre A V → e < pre A (ownF A V e) + cntA (ownF A V e) P → dst e < V
  back_lt : ∀ e, e < pre A V → e < pre A (ownF A V e) + cntA (ownF A V e) P → back e < pre A V ∧ back e < pre A (dst e) + cntA (dst e) P
  own_back : ∀ e, e < pre A V → e < pre A (ownF A V e) + cntA (ownF A V e) P → ownF A V (back e) = dst e
  back_back : ∀ e, e < pre A V → e < pre A (ownF A V e) + cntA (ownF A V e) P → back (back e) = e
  pair : ∀ e, e < pre A V → e < pre A (ownF A V e) + cntA (ownF A V e) P → left e = 0 ∨ left (back e) = 0
  hi : ∀ e, e < pre A V → e < pre A (ownF A V e) + cntA (ownF A V e) P → left e ≤ 9223372036854775807 ∧ -1099511627776 ≤ left e
  sum : ∀ H : Nat → Nat → Int → Int, sumE (pre A V) (fun e => if e < pre A (ownF A V e) + cntA (ownF A V e) P then H (ownF A V e) (dst e) (left e) else 0) = sumA H P
theorem FI.nil (V : Nat) (A : List Ad) (dst back : Nat → Nat) (left : Nat → Int) : FI V A [] dst back left := by
  have hno : ∀ e, e < pre A V → ¬ e < pre A (ownF A V e) + cntA (ownF A V e) [] := fun e he h => by
    have := (ownF_spec A V e he).2.1
    simp [cntA] at h
    omega
  refine ⟨fun e he h => absurd h (hno e he), fun e he h => absurd h (hno e he), fun e he h => absurd h (hno e he), fun e he h => absurd h (hno e he), fun e he h => absurd h (hno e he), fun e he h => absurd h (hno e he), fun H => ?_⟩
  rw [sumE_congr (g := fun _ => 0) _ (fun e he => by rw [if_neg (hno e he)]), sumE_zero]
  rfl

theorem sumE_point {f g : Nat → Int} {i : Nat} : ∀ k, i < k → (∀ j, j < k → j ≠ i → g j = f j) → sumE k g = sumE k f + (g i - f i)
  | 0, h, _ => by omega
  | k + 1, h, hj => by
    simp only [sumE]
    by_cases e : i = k
    · subst e
      rw [sumE_congr (f := g) (g := f) i (fun j hj' => hj j (by omega) (by omega))]
      omega
    · rw [sumE_point k (by omega) (fun j hj' => hj j (by omega)), hj k (by omega) (by omega)]
      omega
theorem sumE_two {f g : Nat → Int} {i r k : Nat} (hi : i < k) (hr : r < k) (hne : i ≠ r) (hj : ∀ j, j < k → j ≠ i → j ≠ r → g j = f j) : sumE k g = sumE k f + (g i - f i) + (g r - f r) := by
  have h1 := sumE_point (f := f) (g := fun j => if j = i then g i else f j) k hi (fun j _ h => by simp [h])
  have h2 := sumE_point (f := fun j => if j = i then g i else f j) (g := g) k hr (fun j hk h => by
    by_cases e : j = i
    · subst e; simp
    · simp only [e, if_false]; exact hj j hk e h)
  simp only [if_true] at h1
  have e : (if r = i then g i else f r) = f r := if_neg (fun h => hne h.symm)
  simp only [e] at h2
  omega

theorem one_self (a : Nat) : one a a = 1 := by simp [one]
theorem one_ne {a b : Nat} (h : a ≠ b) : one a b = 0 := by simp [one, h]

theorem FI.add {V : Nat} {A P : List Ad} {u v : Nat} {wd : Int} {dst back : Nat → Nat} {left : Nat → Int} (h : FI V A P dst back left) (hu : u < V) (hv : v < V) (huv : u ≠ v)
    (hcu : cntA u P + 1 ≤ cntA u A) (hcv : cntA v P + 1 ≤ cntA v A) (hw1 : wd ≤ 9223372036854775807) (hw2 : -1099511627776 ≤ wd) :
    FI V A (P ++ [(u, v, wd)]) (updN (updN dst (pre A u + cntA u P) v) (pre A v + cntA v P) u) (updN (updN back (pre A u + cntA u P) (pre A v + cntA v P)) (pre A v + cntA v P) (pre A u + cntA u P)) (upd (upd left (pre A u + cntA u P) wd) (pre A v + cntA v P) 0) ∧
    pre A u + cntA u P < pre A V ∧ pre A v + cntA v P < pre A V ∧ pre A u + cntA u P ≠ pre A v + cntA v P := by
  generalize he : pre A u + cntA u P = e
  generalize hr : pre A v + cntA v P = r
  have eu : e < pre A (u + 1) := by simp only [pre]; omega
  have rv : r < pre A (v + 1) := by simp only [pre]; omega
  have eV : e < pre A V := Nat.lt_of_lt_of_le eu (pre_mono A (by omega))
  have rV : r < pre A V := Nat.lt_of_lt_of_le rv (pre_mono A (by omega))
  have oe : ownF A V e = u := ownF_eq A hu (by omega) eu
  have or' : ownF A V r = v := ownF_eq A hv (by omega) rv
  have ner : e ≠ r := fun hc => huv (by rw [← oe, hc, or'])
  have cu : cntA u (P ++ [(u, v, wd)]) = cntA u P + 1 := by rw [cntA_append]; simp [cntA, one_self, one_ne (Ne.symm huv)]
  have cv : cntA v (P ++ [(u, v, wd)]) = cntA v P + 1 := by rw [cntA_append]; simp [cntA, one_self, one_ne huv]
  have cx : ∀ x, x ≠ u → x ≠ v → cntA x (P ++ [(u, v, wd)]) = cntA x P := fun x h1 h2 => by rw [cntA_append]; simp [cntA, one_ne (Ne.symm h1), one_ne (Ne.symm h2)]
  have cge : ∀ x, cntA x P ≤ cntA x (P ++ [(u, v, wd)]) := fun x => by rw [cntA_append]; omega
  have filled : ∀ i, i < pre A V → i ≠ e → i ≠ r → i < pre A (ownF A V i) + cntA (ownF A V i) (P ++ [(u, v, wd)]) → i < pre A (ownF A V i) + cntA (ownF A V i) P := by
    intro i hi h1 h2 h3
    by_cases hx : ownF A V i = u
    · rw [hx, cu] at h3; rw [hx]; omega
    · by_cases hy : ownF A V i = v
      · rw [hy, cv] at h3; rw [hy]; omega
      · rw [cx _ hx hy] at h3; exact h3
  have nfe : ¬ e < pre A (ownF A V e) + cntA (ownF A V e) P := by rw [oe]; omega
  have nfr : ¬ r < pre A (ownF A V r) + cntA (ownF A V r) P := by rw [or']; omega
  have De : updN (updN dst e v) r u e = v := by rw [updN_ne _ _ ner, updN_same]
  have Dr : updN (updN dst e v) r u r = u := by rw [updN_same]
  have Dx : ∀ i, i ≠ e → i ≠ r → updN (updN dst e v) r u i = dst i := fun i h1 h2 => by rw [updN_ne _ _ h2, updN_ne _ _ h1]
  have Be : updN (updN back e r) r e e = r := by rw [updN_ne _ _ ner, updN_same]
  have Br : updN (updN back e r) r e r = e := by rw [updN_same]
  have Bx : ∀ i, i ≠ e → i ≠ r → updN (updN back e r) r e i = back i := fun i h1 h2 => by rw [updN_ne _ _ h2, updN_ne _ _ h1]
  have Le : upd (upd left e wd) r 0 e = wd := by rw [upd_ne _ _ ner, upd_same]
  have Lr : upd (upd left e wd) r 0 r = 0 := by rw [upd_same]
  have Lx : ∀ i, i ≠ e → i ≠ r → upd (upd left e wd) r 0 i = left i := fun i h1 h2 => by rw [upd_ne _ _ h2, upd_ne _ _ h1]
  generalize updN (updN dst e v) r u = dst' at *
  generalize updN (updN back e r) r e = back' at *
  generalize upd (upd left e wd) r 0 = left' at *
  -- the mate of an old slot is old
  have mate : ∀ i, i < pre A V → i < pre A (ownF A V i) + cntA (ownF A V i) P → back i ≠ e ∧ back i ≠ r := by
    intro i hi h1
    have h2 := (h.back_lt i hi h1).2
    rw [← h.own_back i hi h1] at h2
    exact ⟨fun hc => by rw [hc] at h2; exact nfe h2, fun hc => by rw [hc] at h2; exact nfr h2⟩
  refine ⟨⟨?_, ?_, ?_, ?_, ?_, ?_, ?_⟩, eV, rV, ner⟩
  · intro i hi h1
    by_cases h2 : i = e
    · subst h2; rw [De]; exact hv
    · by_cases h3 : i = r
      · subst h3; rw [Dr]; exact hu
      · rw [Dx i h2 h3]; exact h.to_lt i hi (filled i hi h2 h3 h1)
  · intro i hi h1
    by_cases h2 : i = e
    · subst h2; rw [Be, De]; exact ⟨rV, by rw [cv]; omega⟩
    · by_cases h3 : i = r
      · subst h3; rw [Br, Dr]; exact ⟨eV, by rw [cu]; omega⟩
      · rw [Bx i h2 h3, Dx i h2 h3]
        have := h.back_lt i hi (filled i hi h2 h3 h1)
        have := cge (dst i)
        omega
  · intro i hi h1
    by_cases h2 : i = e
    · subst h2; rw [Be, De]; exact or'
    · by_cases h3 : i = r
      · subst h3; rw [Br, Dr]; exact oe
      · rw [Bx i h2 h3, Dx i h2 h3]; exact h.own_back i hi (filled i hi h2 h3 h1)
  · intro i hi h1
    by_cases h2 : i = e
    · subst h2; rw [Be, Br]
    · by_cases h3 : i = r
      · subst h3; rw [Br, Be]
      · have hf := filled i hi h2 h3 h1
        obtain ⟨m1, m2⟩ := mate i hi hf
        rw [Bx i h2 h3, Bx _ m1 m2]; exact h.back_back i hi hf
  · intro i hi h1
    by_cases h2 : i = e
    · subst h2; rw [Be, Lr]; exact .inr rfl
    · by_cases h3 : i = r
      · subst h3; rw [Lr]; exact .inl rfl
      · have hf := filled i hi h2 h3 h1
        obtain ⟨m1, m2⟩ := mate i hi hf
        rw [Lx i h2 h3, Bx i h2 h3, Lx _ m1 m2]; exact h.pair i hi hf
  · intro i hi h1
    by_cases h2 : i = e
    · subst h2; rw [Le]; exact ⟨hw1, hw2⟩
    · by_cases h3 : i = r
      · subst h3; rw [Lr]; omega
      · rw [Lx i h2 h3]; exact h.hi i hi (filled i hi h2 h3 h1)
  · intro H
    rw [sumA_append, ← h.sum H]
    have h1 := sumE_two (f := fun i => if i < pre A (ownF A V i) + cntA (ownF A V i) P then H (ownF A V i) (dst i) (left i) else 0)
      (g := fun i => if i < pre A (ownF A V i) + cntA (ownF A V i) (P ++ [(u, v, wd)]) then H (ownF A V i) (dst' i) (left' i) else 0) eV rV ner (fun j hj h2 h3 => by
        show (if j < pre A (ownF A V j) + cntA (ownF A V j) (P ++ [(u, v, wd)]) then H (ownF A V j) (dst' j) (left' j) else 0) = if j < pre A (ownF A V j) + cntA (ownF A V j) P then H (ownF A V j) (dst j) (left j) else 0
        rw [Dx j h2 h3, Lx j h2 h3]
        by_cases h4 : j < pre A (ownF A V j) + cntA (ownF A V j) P
        · rw [if_pos h4, if_pos (by have := cge (ownF A V j); omega)]
        · rw [if_neg h4, if_neg (fun h5 => h4 (filled j hj h2 h3 h5))])
    rw [h1, if_neg nfe, if_neg nfr, De, Dr, Le, Lr, oe, or', if_pos (by rw [cu]; omega), if_pos (by rw [cv]; omega)]
    simp only [sumA]
    omega

/-! ### The network that is built -/
def netOf (V : Nat) (A : List Ad) (dst back : Nat → Nat) (left : Nat → Int) : Net := ⟨V, pre A V, pre A, dst, back, ownF A V, left⟩
theorem FI.ok {V : Nat} {A : List Ad} {dst back : Nat → Nat} {left : Nat → Int} (h : FI V A A dst back left) (hV : 2 ≤ V) : (netOf V A dst back left).OK := by
  have full : ∀ e, e < pre A V → e < pre A (ownF A V e) + cntA (ownF A V e) A := fun e he => (ownF_spec A V e he).2.2
  exact ⟨hV, fun u _ => pre_mono A (Nat.le_succ u), fun u hu => pre_mono A hu, fun u e hu h1 h2 => ownF_eq A hu h1 h2, fun e he => (ownF_spec A V e he).1, fun e he => (ownF_spec A V e he).2.1, fun e he => (ownF_spec A V e he).2.2,
    fun e he => h.to_lt e he (full e he), fun e he => (h.back_lt e he (full e he)).1, fun e he => h.back_back e he (full e he), fun e he => h.own_back e he (full e he), fun e he => h.pair e he (full e he), fun e he => (h.hi e he (full e he)).1, fun e he => (h.hi e he (full e he)).2⟩
theorem FI.whole {V : Nat} {A : List Ad} {dst back : Nat → Nat} {left : Nat → Int} (h : FI V A A dst back left) (H : Nat → Nat → Int → Int) : sumE (pre A V) (fun e => H (ownF A V e) (dst e) (left e)) = sumA H A := by
  rw [← h.sum H]
  exact sumE_congr _ fun e he => by rw [if_pos (show e < pre A (ownF A V e) + cntA (ownF A V e) A from (ownF_spec A V e he).2.2)]

/-! ### The adds -/
structure Dt where
  n : Nat
  k : Nat
  w : Nat → Int
  m : Nat → Nat
  kd : Nat → Nat → Nat
  c : Nat → Int
def Dt.V (D : Dt) : Nat := D.n + D.k + 2
structure Dt.OK (D : Dt) : Prop where
  n : D.n ≤ 12
  k : D.k ≤ 64
  w : ∀ j, j < D.n → -1099511627776 ≤ D.w j ∧ D.w j ≤ 1099511627776
  c : ∀ i, i < D.k → -1099511627776 ≤ D.c i ∧ D.c i ≤ 1099511627776
  m : ∀ j, j < D.n → D.m j ≤ 32
  kd : ∀ j t, j < D.n → t < D.m j → D.kd j t < D.k
def Dt.kinds (D : Dt) (j t : Nat) : List Ad := (List.range t).map fun t => (1 + j, 1 + D.n + D.kd j t, 9223372036854775807)
def Dt.A1 (D : Dt) : Nat → List Ad
  | 0 => []
  | j + 1 => D.A1 j ++ [(0, 1 + j, D.w j)] ++ D.kinds j (D.m j)
def Dt.ends (D : Dt) (i : Nat) : List Ad := (List.range i).map fun i => (1 + D.n + i, D.n + D.k + 1, D.c i)
def Dt.A (D : Dt) : List Ad := D.A1 D.n ++ D.ends D.k
theorem Dt.kinds_succ (D : Dt) (j t : Nat) : D.kinds j (t + 1) = D.kinds j t ++ [(1 + j, 1 + D.n + D.kd j t, 9223372036854775807)] := by simp [Dt.kinds, List.range_succ]
theorem Dt.ends_succ (D : Dt) (i : Nat) : D.ends (i + 1) = D.ends i ++ [(1 + D.n + i, D.n + D.k + 1, D.c i)] := by simp [Dt.ends, List.range_succ]
/-- L is a prefix of M -/
def Pre (L M : List Ad) : Prop := ∃ R, M = L ++ R
theorem Pre.refl (L : List Ad) : Pre L L := ⟨[], by simp⟩
theorem Pre.trans {L M K : List Ad} (h : Pre L M) (k : Pre M K) : Pre L K := by
  obtain ⟨R, rfl⟩ := h
  obtain ⟨S, rfl⟩ := k
  exact ⟨R ++ S, by simp⟩
theorem Pre.app (L R : List Ad) : Pre L (L ++ R) := ⟨R, rfl⟩
theorem Pre.cnt {L M : List Ad} (h : Pre L M) (u : Nat) : cntA u L ≤ cntA u M := by
  obtain ⟨R, rfl⟩ := h
  rw [cntA_append]; omega
theorem Dt.pre_A1 (D : Dt) {j j' : Nat} (h : j ≤ j') : Pre (D.A1 j) (D.A1 j') := by
  induction j' with
  | zero => have : j = 0 := by omega
            subst this; exact Pre.refl _
  | succ j' ih =>
    by_cases e : j = j' + 1
    · subst e; exact Pre.refl _
    · refine (ih (by omega)).trans ⟨[(0, 1 + j', D.w j')] ++ D.kinds j' (D.m j'), by simp [Dt.A1]⟩
theorem Dt.pre_kinds (D : Dt) (j : Nat) {t t' : Nat} (h : t ≤ t') : Pre (D.kinds j t) (D.kinds j t') := by
  induction t' with
  | zero => have : t = 0 := by omega
            subst this; exact Pre.refl _
  | succ t' ih =>
    by_cases e : t = t' + 1
    · subst e; exact Pre.refl _
    · exact (ih (by omega)).trans ⟨_, D.kinds_succ j t'⟩
theorem Dt.pre_ends (D : Dt) {t t' : Nat} (h : t ≤ t') : Pre (D.ends t) (D.ends t') := by
  induction t' with
  | zero => have : t = 0 := by omega
            subst this; exact Pre.refl _
  | succ t' ih =>
    by_cases e : t = t' + 1
    · subst e; exact Pre.refl _
    · exact (ih (by omega)).trans ⟨_, D.ends_succ t'⟩
theorem Pre.left {L M : List Ad} (K : List Ad) (h : Pre L M) : Pre (K ++ L) (K ++ M) := by
  obtain ⟨R, rfl⟩ := h
  exact ⟨R, by simp⟩
theorem Dt.pre1 (D : Dt) {j : Nat} (h : j < D.n) : Pre (D.A1 j ++ [(0, 1 + j, D.w j)]) D.A :=
  ((Pre.app _ (D.kinds j (D.m j))).trans (D.pre_A1 (j := j + 1) (by omega))).trans (Pre.app _ _)
theorem Dt.pre2 (D : Dt) {j t : Nat} (h : j < D.n) (ht : t < D.m j) : Pre (D.A1 j ++ [(0, 1 + j, D.w j)] ++ D.kinds j (t + 1)) D.A :=
  (((D.pre_kinds j (t' := D.m j) (by omega)).left _).trans (D.pre_A1 (j := j + 1) (by omega))).trans (Pre.app _ _)
theorem Dt.pre3 (D : Dt) {i : Nat} (h : i < D.k) : Pre (D.A1 D.n ++ D.ends (i + 1)) D.A := (D.pre_ends (by omega)).left _
theorem Dt.len1 (D : Dt) (hD : D.OK) : ∀ j, j ≤ D.n → (D.A1 j).length ≤ 33 * j
  | 0, _ => by simp [Dt.A1]
  | j + 1, h => by
    have := D.len1 hD j (by omega)
    have := hD.m j (by omega)
    simp [Dt.A1, Dt.kinds]
    omega
theorem Dt.len (D : Dt) (hD : D.OK) : D.A.length ≤ 460 := by
  have h1 := D.len1 hD D.n (Nat.le_refl _)
  have := hD.n
  have := hD.k
  simp [Dt.A, Dt.ends]
  omega
theorem Dt.E_le (D : Dt) (hD : D.OK) : pre D.A D.V ≤ 100000 := by
  have h1 := pre_le D.A D.V
  have h2 := D.len hD
  have h3 : D.V ≤ 78 := by have := hD.n; have := hD.k; unfold Dt.V; omega
  have h4 : D.V * (2 * D.A.length) ≤ 78 * 920 := Nat.mul_le_mul h3 (by omega)
  omega
end Go.Proofs.Ybulkdxng.D
