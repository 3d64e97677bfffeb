import Derived.Test.YbulkdxngV
namespace Go.Proofs.Ybulkdxng.D
set_option linter.unusedVariables false

/-! ### Sums over a range -/
theorem sumE_range (f : Nat → Int) {a b : Nat} (hab : a ≤ b) : ∀ k, b ≤ k → sumE k (fun e => if a ≤ e ∧ e < b then f e else 0) = sumE b f - sumE a f
  | 0, h => by
    have : b = 0 := by omega
    subst this
    have : a = 0 := by omega
    subst this
    simp [sumE]
  | k + 1, h => by
    by_cases e : b = k + 1
    · subst e
      have : ∀ k', k' ≤ k + 1 → a ≤ k' → sumE k' (fun e => if a ≤ e ∧ e < k + 1 then f e else 0) = sumE k' f - sumE a f := by
        intro k'
        induction k' with
        | zero =>
          intro _ h2
          have : a = 0 := by omega
          subst this
          simp [sumE]
        | succ k' ih =>
          intro h1 h2
          by_cases e2 : a = k' + 1
          · subst e2
            rw [sumE_congr (g := fun _ => 0) _ (fun i hi => by rw [if_neg (by omega)]), sumE_zero]
            omega
          · simp only [sumE]
            rw [ih (by omega) (by omega), if_pos ⟨by omega, by omega⟩]
            omega
      exact this (k + 1) (Nat.le_refl _) hab
    · simp only [sumE]
      rw [sumE_range f hab k (by omega), if_neg (by omega)]
      omega
theorem sumE_nonneg {f : Nat → Int} : ∀ k, (∀ i, i < k → 0 ≤ f i) → 0 ≤ sumE k f
  | 0, _ => Int.le_refl _
  | k + 1, h => by
    have h1 := sumE_nonneg k (fun i hi => h i (by omega))
    have h2 := h k (by omega)
    simp only [sumE]
    omega
theorem sumE_part {f : Nat → Int} : ∀ k, (∀ i, i < k → 0 ≤ f i) → ∀ i, i < k → f i ≤ sumE k f
  | 0, _, i, h => by omega
  | k + 1, h, i, hi => by
    have h1 := sumE_nonneg k (fun i hi => h i (by omega))
    have h2 := h k (by omega)
    simp only [sumE]
    by_cases e : i = k
    · subst e; omega
    · have := sumE_part k (fun i hi => h i (by omega)) i (by omega)
      omega
theorem sumE_const_le {f : Nat → Int} {c : Int} : ∀ k, (∀ i, i < k → f i ≤ c) → sumE k f ≤ k * c
  | 0, _ => by simp [sumE]
  | k + 1, h => by
    have h1 := sumE_const_le k (fun i hi => h i (by omega))
    have h2 := h k (by omega)
    simp only [sumE]
    rw [Int.natCast_add, Int.add_mul]
    simp
    omega

/-! ### What the checks say of an edge -/
section
variable {N : Net} {l : Nat → Int}
theorem Val.neg {N : Net} {l : Nat → Int} (hv : Val N l) {e : Nat} (he : e < N.E) (h : N.orig e < 0) : l e = N.orig e := (hv e he).2.2 (.inl h)
theorem Val.nonneg {N : Net} {l : Nat → Int} (hv : Val N l) {e : Nat} (he : e < N.E) (h : 0 ≤ N.orig e) : 0 ≤ l e := by
  by_cases hb : N.orig (N.back e) < 0
  · rw [(hv e he).2.2 (.inr hb)]; exact h
  · exact (hv e he).2.1 h (by omega)
theorem Val.anti {N : Net} {l : Nat → Int} (hv : Val N l) {e : Nat} (he : e < N.E) : N.orig e - l e = -(N.orig (N.back e) - l (N.back e)) := by
  have := (hv e he).1; omega
theorem Val.le_max {N : Net} {l : Nat → Int} (hv : Val N l) {e : Nat} (he : e < N.E) : N.orig e - l e ≤ max (N.orig e) 0 := by
  by_cases h : N.orig e < 0
  · rw [hv.neg he h]; omega
  · have := hv.nonneg he (by omega); omega

/-- the net flow out of a node -/
theorem net_node (hN : N.OK) {s : Int} (ht : Total N l s) {u : Nat} (hu : u < N.V) :
    sumE (N.first (u + 1)) (fun e => N.orig e - l e) - sumE (N.first u) (fun e => N.orig e - l e) = s * ((if 0 = u then 1 else 0) - (if N.sink = u then 1 else 0)) := by
  have h1 := ht (fun e => if N.own e = u then 1 else 0) (fun v => if v = u then 1 else 0) (fun e he => by
    show (if N.own e = u then (1 : Int) else 0) - (if N.own (N.back e) = u then 1 else 0) = _
    rw [hN.own_back e he])
  have h2 := sumE_range (fun e => N.orig e - l e) (hN.mono u hu) N.E (hN.top (u + 1) hu)
  rw [← h2]
  have h3 : sumE N.E (fun e => if N.first u ≤ e ∧ e < N.first (u + 1) then N.orig e - l e else 0) = sumE N.E (fun e => (if N.own e = u then (1 : Int) else 0) * N.orig e - (if N.own e = u then (1 : Int) else 0) * l e) := by
    refine sumE_congr _ fun e he => ?_
    show (if N.first u ≤ e ∧ e < N.first (u + 1) then N.orig e - l e else 0) = (if N.own e = u then (1 : Int) else 0) * N.orig e - (if N.own e = u then (1 : Int) else 0) * l e
    by_cases h : N.first u ≤ e ∧ e < N.first (u + 1)
    · rw [if_pos h, if_pos (hN.slot u e hu h.1 h.2)]; omega
    · rw [if_neg h, if_neg (fun h' => h (by rw [← h']; exact ⟨hN.own_lo e he, hN.own_hi e he⟩))]; omega
  rw [h3, sumE_sub, h1]
  omega

/-! ### Cuts -/
def cutE (N : Net) (S : Nat → Bool) : Int := sumE N.E (fun e => if S (N.own e) = true ∧ S (N.to e) = false then max (N.orig e) 0 else 0)
theorem cut_eq (hN : N.OK) {s : Int} (ht : Total N l s) (S : Nat → Bool) (h0 : S 0 = true) (hs : S N.sink = false) :
    sumE N.E (fun e => if S (N.own e) = true ∧ S (N.to e) = false then N.orig e - l e else 0) = s := by
  have h1 := ht (fun e => if S (N.own e) = true ∧ S (N.to e) = false then 1 else 0) (fun v => if S v = true then 1 else 0) (fun e he => by
    show (if S (N.own e) = true ∧ S (N.to e) = false then (1 : Int) else 0) - (if S (N.own (N.back e)) = true ∧ S (N.to (N.back e)) = false then 1 else 0) = (if S (N.own e) = true then 1 else 0) - (if S (N.to e) = true then 1 else 0)
    rw [hN.own_back e he, hN.to_back he]
    cases S (N.own e) <;> cases S (N.to e) <;> simp)
  simp only [h0, hs, if_true] at h1
  have h3 : sumE N.E (fun e => if S (N.own e) = true ∧ S (N.to e) = false then N.orig e - l e else 0) = sumE N.E (fun e => (if S (N.own e) = true ∧ S (N.to e) = false then (1 : Int) else 0) * N.orig e - (if S (N.own e) = true ∧ S (N.to e) = false then (1 : Int) else 0) * l e) := by
    refine sumE_congr _ fun e he => ?_
    show (if S (N.own e) = true ∧ S (N.to e) = false then N.orig e - l e else 0) = (if S (N.own e) = true ∧ S (N.to e) = false then (1 : Int) else 0) * N.orig e - (if S (N.own e) = true ∧ S (N.to e) = false then (1 : Int) else 0) * l e
    split <;> omega
  rw [h3, sumE_sub, h1]
  simp
  omega
theorem cut_weak (hN : N.OK) (hv : Val N l) {s : Int} (ht : Total N l s) (S : Nat → Bool) (h0 : S 0 = true) (hs : S N.sink = false) : s ≤ cutE N S := by
  rw [← cut_eq hN ht S h0 hs]
  refine sumE_le _ fun e he => ?_
  show (if S (N.own e) = true ∧ S (N.to e) = false then N.orig e - l e else 0) ≤ if S (N.own e) = true ∧ S (N.to e) = false then max (N.orig e) 0 else 0
  split
  · exact hv.le_max he
  · exact Int.le_refl _
theorem cut_tight (hN : N.OK) (hv : Val N l) {s : Int} (ht : Total N l s) (S : Nat → Bool) (h0 : S 0 = true) (hs : S N.sink = false) (hc : ∀ e, e < N.E → S (N.own e) = true → S (N.to e) = false → l e ≤ 0) : s = cutE N S := by
  rw [← cut_eq hN ht S h0 hs]
  refine sumE_congr _ fun e he => ?_
  show (if S (N.own e) = true ∧ S (N.to e) = false then N.orig e - l e else 0) = if S (N.own e) = true ∧ S (N.to e) = false then max (N.orig e) 0 else 0
  split
  · rename_i h
    have h1 := hc e he h.1 h.2
    by_cases hn : N.orig e < 0
    · rw [hv.neg he hn]; omega
    · have := hv.nonneg he (by omega); omega
  · rfl
end

/-! ### The cut of a set of nodes, told by the data -/
def HS (S : Nat → Bool) (u v : Nat) (x : Int) : Int := if S u = true ∧ S v = false then max x 0 else 0
theorem HS_zero (S : Nat → Bool) (u v : Nat) : HS S u v 0 = 0 := by unfold HS; split <;> rfl
theorem HS_nonneg (S : Nat → Bool) (u v : Nat) (x : Int) : 0 ≤ HS S u v x := by unfold HS; split <;> omega
theorem cutE_netOf {V : Nat} {A : List Ad} {dst back : Nat → Nat} {left : Nat → Int} (h : FI V A A dst back left) (S : Nat → Bool) : cutE (netOf V A dst back left) S = sumA (HS S) A := by
  rw [← h.whole (HS S)]
  rfl
def kindsCut (D : Dt) (S : Nat → Bool) (j : Nat) : Nat → Int
  | 0 => 0
  | t + 1 => kindsCut D S j t + HS S (1 + j) (1 + D.n + D.kd j t) 9223372036854775807
theorem sum_kinds (D : Dt) (S : Nat → Bool) (j : Nat) : ∀ t, sumA (HS S) (D.kinds j t) = kindsCut D S j t
  | 0 => by simp [Dt.kinds, sumA, kindsCut]
  | t + 1 => by
    rw [D.kinds_succ, sumA_append, sum_kinds D S j t]
    simp only [sumA, kindsCut, HS_zero]
    omega
theorem kindsCut_nonneg (D : Dt) (S : Nat → Bool) (j : Nat) : ∀ t, 0 ≤ kindsCut D S j t
  | 0 => Int.le_refl _
  | t + 1 => by
    have := kindsCut_nonneg D S j t
    have := HS_nonneg S (1 + j) (1 + D.n + D.kd j t) 9223372036854775807
    simp only [kindsCut]; omega
theorem kindsCut_zero (D : Dt) (S : Nat → Bool) (j : Nat) : ∀ t, (∀ t', t' < t → S (1 + j) = true → S (1 + D.n + D.kd j t') = true) → kindsCut D S j t = 0
  | 0, _ => rfl
  | t + 1, h => by
    simp only [kindsCut]
    rw [kindsCut_zero D S j t (fun t' ht => h t' (by omega))]
    have := h t (by omega)
    unfold HS
    rw [if_neg (fun hc => by rw [this hc.1] at hc; exact Bool.noConfusion hc.2)]
    rfl
theorem kindsCut_in (D : Dt) (S : Nat → Bool) (j : Nat) (hj : S (1 + j) = true) : ∀ t, kindsCut D S j t < 9223372036854775807 → ∀ t', t' < t → S (1 + D.n + D.kd j t') = true
  | 0, _, t', h => by omega
  | t + 1, hlt, t', h => by
    have h1 := kindsCut_nonneg D S j t
    have h2 := HS_nonneg S (1 + j) (1 + D.n + D.kd j t) 9223372036854775807
    simp only [kindsCut] at hlt
    by_cases e : t' = t
    · subst e
      cases hS : S (1 + D.n + D.kd j t') with
      | true => rfl
      | false =>
        unfold HS at hlt
        rw [if_pos ⟨hj, hS⟩] at hlt
        omega
    · exact kindsCut_in D S j hj t (by omega) t' (by omega)
theorem sum_A1 (D : Dt) (S : Nat → Bool) (h0 : S 0 = true) : ∀ j, sumA (HS S) (D.A1 j) = sumE j (fun j => (if S (1 + j) = true then 0 else max (D.w j) 0) + kindsCut D S j (D.m j))
  | 0 => rfl
  | j + 1 => by
    simp only [Dt.A1, sumE]
    rw [sumA_append, sumA_append, sum_A1 D S h0 j, sum_kinds]
    simp only [sumA, HS_zero]
    unfold HS
    rw [h0]
    cases S (1 + j) <;> simp <;> omega
theorem sum_ends (D : Dt) (S : Nat → Bool) (hs : S (D.n + D.k + 1) = false) : ∀ i, sumA (HS S) (D.ends i) = sumE i (fun i => if S (1 + D.n + i) = true then max (D.c i) 0 else 0)
  | 0 => by simp [Dt.ends, sumA, sumE]
  | i + 1 => by
    rw [D.ends_succ, sumA_append, sum_ends D S hs i]
    simp only [sumA, HS_zero, sumE]
    unfold HS
    rw [hs]
    cases S (1 + D.n + i) <;> simp
theorem sum_A (D : Dt) (S : Nat → Bool) (h0 : S 0 = true) (hs : S (D.n + D.k + 1) = false) : sumA (HS S) D.A = sumE D.n (fun j => (if S (1 + j) = true then 0 else max (D.w j) 0) + kindsCut D S j (D.m j)) + sumE D.k (fun i => if S (1 + D.n + i) = true then max (D.c i) 0 else 0) := by
  unfold Dt.A
  rw [sumA_append, sum_A1 D S h0, sum_ends D S hs]

/-! ### The masks -/
def bit (mask j : Nat) : Bool := decide (mask / 2 ^ j % 2 = 1)
theorem mask_of : ∀ (n : Nat) (p : Nat → Bool), ∃ mask, mask < 2 ^ n ∧ ∀ j, j < n → bit mask j = p j
  | 0, p => ⟨0, by simp, fun j h => by omega⟩
  | n + 1, p => by
    obtain ⟨m, hm, hb⟩ := mask_of n (fun j => p (j + 1))
    refine ⟨2 * m + (if p 0 = true then 1 else 0), ?_, fun j hj => ?_⟩
    · rw [Nat.pow_succ]
      split <;> omega
    · cases j with
      | zero =>
        unfold bit
        cases h : p 0 <;> simp <;> omega
      | succ j =>
        rw [← hb j (by omega)]
        unfold bit
        rw [show (2 : Nat) ^ (j + 1) = 2 * 2 ^ j by rw [Nat.pow_succ, Nat.mul_comm], ← Nat.div_div_eq_div_mul]
        congr 3
        congr 1
        split <;> omega
/-- kind i is among the first t of contract j -/
def hasK (D : Dt) (j i : Nat) : Nat → Bool
  | 0 => false
  | t + 1 => hasK D j i t || decide (D.kd j t = i)
/-- kind i belongs to one of the first j contracts of the mask -/
def inB (D : Dt) (mask i : Nat) : Nat → Bool
  | 0 => false
  | j + 1 => inB D mask i j || (bit mask j && hasK D j i (D.m j))
theorem hasK_iff (D : Dt) (j i : Nat) : ∀ t, hasK D j i t = true ↔ ∃ t', t' < t ∧ D.kd j t' = i
  | 0 => by simp [hasK]
  | t + 1 => by
    simp only [hasK, Bool.or_eq_true, decide_eq_true_eq, hasK_iff D j i t]
    constructor
    · rintro (⟨t', h1, h2⟩ | h)
      · exact ⟨t', by omega, h2⟩
      · exact ⟨t, by omega, h⟩
    · rintro ⟨t', h1, h2⟩
      by_cases e : t' = t
      · subst e; exact .inr h2
      · exact .inl ⟨t', by omega, h2⟩
theorem inB_iff (D : Dt) (mask i : Nat) : ∀ j, inB D mask i j = true ↔ ∃ j', j' < j ∧ bit mask j' = true ∧ ∃ t, t < D.m j' ∧ D.kd j' t = i
  | 0 => by simp [inB]
  | j + 1 => by
    simp only [inB, Bool.or_eq_true, Bool.and_eq_true, inB_iff D mask i j, hasK_iff]
    constructor
    · rintro (⟨j', h1, h2⟩ | h)
      · exact ⟨j', by omega, h2⟩
      · exact ⟨j, by omega, h⟩
    · rintro ⟨j', h1, h2⟩
      by_cases e : j' = j
      · subst e; exact .inr h2
      · exact .inl ⟨j', by omega, h2⟩
def cutW (D : Dt) (mask j : Nat) : Int := sumE j (fun j => if bit mask j = true then 0 else max (D.w j) 0)
def cutC (D : Dt) (mask i : Nat) : Int := sumE i (fun i => if inB D mask i D.n = true then max (D.c i) 0 else 0)
def cutM (D : Dt) (mask : Nat) : Int := cutW D mask D.n + cutC D mask D.k
/-- the nodes of a mask -/
def nodes (D : Dt) (mask v : Nat) : Bool :=
  if v = 0 then true else if v ≤ D.n then bit mask (v - 1) else if v ≤ D.n + D.k then inB D mask (v - 1 - D.n) D.n else false
theorem nodes_con (D : Dt) (mask : Nat) {j : Nat} (h : j < D.n) : nodes D mask (1 + j) = bit mask j := by
  unfold nodes
  rw [if_neg (by omega), if_pos (by omega), show 1 + j - 1 = j by omega]
theorem nodes_kind (D : Dt) (mask : Nat) {i : Nat} (h : i < D.k) : nodes D mask (1 + D.n + i) = inB D mask i D.n := by
  unfold nodes
  rw [if_neg (by omega), if_neg (by omega), if_pos (by omega), show 1 + D.n + i - 1 - D.n = i by omega]
theorem nodes_zero (D : Dt) (mask : Nat) : nodes D mask 0 = true := rfl
theorem nodes_sink (D : Dt) (mask : Nat) : nodes D mask (D.n + D.k + 1) = false := by
  unfold nodes
  rw [if_neg (by omega), if_neg (by omega), if_neg (by omega)]
theorem cutM_nodes (D : Dt) (hD : D.OK) (mask : Nat) : sumA (HS (nodes D mask)) D.A = cutM D mask := by
  rw [sum_A D _ (nodes_zero D mask) (nodes_sink D mask)]
  unfold cutM cutW cutC
  congr 1
  · refine sumE_congr _ fun j hj => ?_
    show (if nodes D mask (1 + j) = true then 0 else max (D.w j) 0) + kindsCut D (nodes D mask) j (D.m j) = _
    rw [nodes_con D mask hj, kindsCut_zero D _ j (D.m j) (fun t ht hb => ?_)]
    · omega
    · rw [nodes_con D mask hj] at hb
      rw [nodes_kind D mask (hD.kd j t hj ht), inB_iff]
      exact ⟨j, hj, hb, t, ht, rfl⟩
  · refine sumE_congr _ fun i hi => ?_
    show (if nodes D mask (1 + D.n + i) = true then max (D.c i) 0 else 0) = _
    rw [nodes_kind D mask hi]
theorem cutW_bounds (D : Dt) (hD : D.OK) (mask : Nat) {j : Nat} (hj : j ≤ D.n) : 0 ≤ cutW D mask j ∧ cutW D mask j ≤ 13194139533312 := by
  have hn := hD.n
  refine ⟨sumE_nonneg _ fun i hi => by show 0 ≤ (if bit mask i = true then (0 : Int) else max (D.w i) 0); split <;> omega, ?_⟩
  have h1 := sumE_const_le (f := fun j => if bit mask j = true then 0 else max (D.w j) 0) (c := 1099511627776) j (fun i hi => by
    have := hD.w i (by omega)
    show (if bit mask i = true then (0 : Int) else max (D.w i) 0) ≤ _
    split <;> omega)
  unfold cutW
  have : (j : Int) * 1099511627776 ≤ 12 * 1099511627776 := by omega
  omega
theorem cutC_bounds (D : Dt) (hD : D.OK) (mask : Nat) {i : Nat} (hi : i ≤ D.k) : 0 ≤ cutC D mask i ∧ cutC D mask i ≤ 70368744177664 := by
  have hn := hD.k
  refine ⟨sumE_nonneg _ fun i hi => by show 0 ≤ (if inB D mask i D.n = true then max (D.c i) 0 else (0 : Int)); split <;> omega, ?_⟩
  have h1 := sumE_const_le (f := fun i => if inB D mask i D.n = true then max (D.c i) 0 else 0) (c := 1099511627776) i (fun x hx => by
    have := hD.c x (by omega)
    show (if inB D mask x D.n = true then max (D.c x) 0 else (0 : Int)) ≤ _
    split <;> omega)
  unfold cutC
  have : (i : Int) * 1099511627776 ≤ 64 * 1099511627776 := by omega
  omega

section
variable {D : Dt} {dst back : Nat → Nat} {left l : Nat → Int} {s : Int}
theorem D_sink (D : Dt) (dst back : Nat → Nat) (left : Nat → Int) : (netOf D.V D.A dst back left).sink = D.n + D.k + 1 := rfl
theorem weak (hD : D.OK) (h : FI D.V D.A D.A dst back left) (hv : Val (netOf D.V D.A dst back left) l) (ht : Total (netOf D.V D.A dst back left) l s) (mask : Nat) : s ≤ cutM D mask := by
  have hN := h.ok (show 2 ≤ D.V by unfold Dt.V; omega)
  rw [← cutM_nodes D hD mask, ← cutE_netOf h]
  exact cut_weak hN hv ht (nodes D mask) (nodes_zero D mask) (nodes_sink D mask)
theorem total_le (hD : D.OK) (h : FI D.V D.A D.A dst back left) : ∀ l s, Val (netOf D.V D.A dst back left) l → Total (netOf D.V D.A dst back left) l s → s ≤ 1000000000000000 := fun l s hv ht => by
  have h1 := weak hD h hv ht 0
  have h2 := cutW_bounds D hD 0 (Nat.le_refl D.n)
  have h3 := cutC_bounds D hD 0 (Nat.le_refl D.k)
  unfold cutM at h1
  omega
theorem tight (hD : D.OK) (h : FI D.V D.A D.A dst back left) (hv : Val (netOf D.V D.A dst back left) l) (ht : Total (netOf D.V D.A dst back left) l s) {lev : Nat → Int} (hf : Found (netOf D.V D.A dst back left) l lev false) : ∃ mask, mask < 2 ^ D.n ∧ cutM D mask = s := by
  have hN := h.ok (show 2 ≤ D.V by unfold Dt.V; omega)
  obtain ⟨hk1, hk2⟩ := hf.no rfl
  have hS0 : (fun v => decide (0 ≤ lev v)) 0 = true := by simp [hf.zero]
  have hSs : (fun v => decide (0 ≤ lev v)) (D.n + D.k + 1) = false := by
    have : lev (D.n + D.k + 1) = -1 := hk1
    simp [this]
  have hcut := cut_tight hN hv ht (fun v => decide (0 ≤ lev v)) hS0 hSs (fun e he h1 h2 => by
    have a1 : 0 ≤ lev ((netOf D.V D.A dst back left).own e) := of_decide_eq_true h1
    have a2 : ¬ 0 ≤ lev ((netOf D.V D.A dst back left).to e) := of_decide_eq_false h2
    by_cases hp : 0 < l e
    · exact absurd (hk2 e he a1 hp) a2
    · omega)
  have hle := total_le hD h l s hv ht
  rw [cutE_netOf h] at hcut
  generalize hSd : (fun v => decide (0 ≤ lev v)) = S at *
  rw [sum_A D S hS0 hSs] at hcut
  have hnn : ∀ i, i < D.n → 0 ≤ (if S (1 + i) = true then 0 else max (D.w i) 0) + kindsCut D S i (D.m i) := fun i hi => by
    have := kindsCut_nonneg D S i (D.m i)
    split <;> omega
  have hnc : ∀ i, i < D.k → 0 ≤ if S (1 + D.n + i) = true then max (D.c i) 0 else 0 := fun i hi => by split <;> omega
  have hcs := sumE_nonneg D.k hnc
  obtain ⟨mask, hm, hb⟩ := mask_of D.n (fun j => S (1 + j))
  refine ⟨mask, hm, Int.le_antisymm ?_ (weak hD h hv ht mask)⟩
  rw [hcut]
  unfold cutM cutW cutC
  have p1 : sumE D.n (fun j => if bit mask j = true then 0 else max (D.w j) 0) ≤ sumE D.n (fun j => (if S (1 + j) = true then 0 else max (D.w j) 0) + kindsCut D S j (D.m j)) := by
    refine sumE_le _ fun j hj => ?_
    show (if bit mask j = true then 0 else max (D.w j) 0) ≤ (if S (1 + j) = true then 0 else max (D.w j) 0) + kindsCut D S j (D.m j)
    have := kindsCut_nonneg D S j (D.m j)
    rw [hb j hj]
    omega
  have p2 : sumE D.k (fun i => if inB D mask i D.n = true then max (D.c i) 0 else 0) ≤ sumE D.k (fun i => if S (1 + D.n + i) = true then max (D.c i) 0 else 0) := by
    refine sumE_le _ fun i hi => ?_
    show (if inB D mask i D.n = true then max (D.c i) 0 else 0) ≤ if S (1 + D.n + i) = true then max (D.c i) 0 else 0
    by_cases hin : inB D mask i D.n = true
    · obtain ⟨j, hj, hbj, t, htm, rfl⟩ := (inB_iff D mask i D.n).1 hin
      rw [hb j hj] at hbj
      have hpart := sumE_part D.n hnn j hj
      have hlt : kindsCut D S j (D.m j) < 9223372036854775807 := by
        rw [if_pos hbj] at hpart
        omega
      rw [if_pos (kindsCut_in D S j hbj (D.m j) hlt t htm)]
      rw [if_pos hin]
      exact Int.le_refl _
    · rw [if_neg hin]
      split <;> omega
  omega
end
end Go.Proofs.Ybulkdxng.D
