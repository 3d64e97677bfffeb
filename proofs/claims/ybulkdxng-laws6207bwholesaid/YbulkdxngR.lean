import Derived.Test.YbulkdxngQ
namespace Go.Proofs.Ybulkdxng.D
open Go.RowKit
set_option linter.unusedVariables false

/-! ### The plain search -/
def cnt (V : Nat) (lev : Nat → Int) : Int := sumE V fun v => if 0 ≤ lev v then 1 else 0
theorem cnt_le (lev : Nat → Int) : ∀ V, cnt V lev ≤ V
  | 0 => by simp [cnt, sumE]
  | V + 1 => by
    have := cnt_le lev V
    unfold cnt at *
    simp only [sumE]
    split <;> omega
theorem cnt_upd (lev : Nat → Int) (v : Nat) (z : Int) (hz : 0 ≤ z) (hv : lev v < 0) : ∀ V, v < V → cnt V (upd lev v z) = cnt V lev + 1
  | 0, h => by omega
  | V + 1, h => by
    unfold cnt
    simp only [sumE]
    by_cases e : v = V
    · subst e
      rw [sumE_congr (f := fun u => if 0 ≤ upd lev v z u then (1 : Int) else 0) (g := fun u => if 0 ≤ lev u then 1 else 0) v (fun i hi => by show (if 0 ≤ upd lev v z i then (1 : Int) else 0) = _; rw [upd_ne _ _ (by omega)])]
      rw [upd_same, if_pos hz, if_neg (by omega)]
      omega
    · have := cnt_upd lev v z hz hv V (by omega)
      unfold cnt at this
      rw [this, upd_ne _ _ (by omega)]
      omega

structure RI (N : Net) (l : Nat → Int) (lev : Nat → Int) (Q : List Nat) (h : Nat) : Prop where
  q_in : ∀ x, x ∈ Q → x < N.V ∧ x ≠ N.sink ∧ 0 ≤ lev x
  q_lev : ∀ (i : Nat) (x : Nat), Q[i]? = some x → lev x ≤ i
  in_q : ∀ v, v < N.V → 0 ≤ lev v → v ∈ Q
  neg : ∀ v, v < N.V → -1 ≤ lev v
  len : (Q.length : Int) = cnt N.V lev
  zero : lev 0 = 0
  sinkneg : lev N.sink = -1
  closed : ∀ (i : Nat) (x : Nat), i < h → Q[i]? = some x → ∀ e, e < N.E → N.own e = x → 0 < l e → 0 ≤ lev (N.to e)
  tree : ∀ v, v < N.V → 0 ≤ lev v → v ≠ 0 → ∃ e, e < N.E ∧ N.to e = v ∧ 0 < l e ∧ LE N lev e ∧ 0 ≤ lev (N.own e)

/-- what the search says in the end -/
structure Found (N : Net) (l : Nat → Int) (lev : Nat → Int) (b : Bool) : Prop where
  bounds : ∀ v, v < N.V → -1 ≤ lev v ∧ lev v ≤ 1000
  zero : lev 0 = 0
  yes : b = true → Path N lev l 0
  no : b = false → lev N.sink = -1 ∧ ∀ e, e < N.E → 0 ≤ lev (N.own e) → 0 < l e → 0 ≤ lev (N.to e)

section
variable {N : Net} {l lev : Nat → Int} {Q : List Nat} {h : Nat}
theorem RI.lt (r : RI N l lev Q h) (hV : N.V ≤ 1000) : Q.length ≤ N.V := by
  have := cnt_le lev N.V
  have := r.len
  omega
theorem RI.lev_le (r : RI N l lev Q h) {v : Nat} (hv : v < N.V) : lev v ≤ Q.length := by
  by_cases h0 : 0 ≤ lev v
  · obtain ⟨i, hi, he⟩ := List.getElem_of_mem (r.in_q v hv h0)
    have := r.q_lev i v (by rw [List.getElem?_eq_getElem hi, he])
    omega
  · omega
theorem path_back (hN : N.OK) (tree : ∀ v, v < N.V → 0 ≤ lev v → v ≠ 0 → ∃ e, e < N.E ∧ N.to e = v ∧ 0 < l e ∧ LE N lev e ∧ 0 ≤ lev (N.own e)) : ∀ (d : Nat) (v : Nat), lev v = d → v < N.V → Path N lev l v → Path N lev l 0 := by
  intro d
  induction d using Nat.strongRecOn with
  | ind d ih =>
    intro v hd hv hp
    by_cases h0 : v = 0
    · subst h0; exact hp
    · obtain ⟨e, he, rfl, hpos, hle, hown⟩ := tree v hv (by omega) h0
      have h1 : lev (N.to e) = lev (N.own e) + 1 := hle
      refine ih (lev (N.own e)).toNat (by omega) (N.own e) (by omega) (hN.own_lt e he) (.step e he hpos hle hp)
theorem RI.no (r : RI N l lev Q h) (hN : N.OK) (hV : N.V ≤ 1000) (hh : Q.length ≤ h) : Found N l lev false := by
  have h2 := hN.two
  refine ⟨fun v hv => ⟨r.neg v hv, ?_⟩, r.zero, fun h => (by cases h), fun _ => ⟨r.sinkneg, fun e he h0 hp => ?_⟩⟩
  · have := r.lev_le hv; have := r.lt hV; omega
  · obtain ⟨i, hi, hx⟩ := List.getElem_of_mem (r.in_q _ (hN.own_lt e he) h0)
    exact r.closed i _ (by omega) (by rw [List.getElem?_eq_getElem hi, hx]) e he rfl hp
theorem RI.yes (r : RI N l lev Q h) (hN : N.OK) (hV : N.V ≤ 999) {u e : Nat} (he : e < N.E) (hown : N.own e = u) (hu : Q[h]? = some u) (hp : 0 < l e) (hv : N.to e = N.sink) :
    Found N l (upd lev N.sink (lev u + 1)) true := by
  have h2 := hN.two
  have hs : N.sink < N.V := by unfold Net.sink; omega
  have hmem : u ∈ Q := List.mem_of_getElem? hu
  obtain ⟨uV, us, u0⟩ := r.q_in u hmem
  have hsn := r.sinkneg
  have hne0 : (0 : Nat) ≠ N.sink := by unfold Net.sink; omega
  have hlu := r.lev_le uV
  have hQ := r.lt (by omega)
  have hLE : LE N (upd lev N.sink (lev u + 1)) e := by
    unfold LE; rw [hv, hown, upd_same, upd_ne _ _ us]
  refine ⟨fun v hvv => ?_, by rw [upd_ne _ _ hne0]; exact r.zero, fun _ => ?_, fun h => (by cases h)⟩
  · by_cases h1 : v = N.sink
    · subst h1; rw [upd_same]; omega
    · rw [upd_ne _ _ h1]
      have := r.neg v hvv
      have := r.lev_le hvv
      omega
  · refine path_back hN (lev := upd lev N.sink (lev u + 1)) ?_ (lev u + 1).toNat N.sink (by rw [upd_same]; omega) hs .sink
    intro v hvv h0 hv0
    by_cases h1 : v = N.sink
    · subst h1
      exact ⟨e, he, hv, hp, hLE, by rw [hown, upd_ne _ _ us]; exact u0⟩
    · rw [upd_ne _ _ h1] at h0
      obtain ⟨e', he', ht, hp', hle', ho'⟩ := r.tree v hvv h0 hv0
      have hos : N.own e' ≠ N.sink := fun hc => by rw [hc] at ho'; omega
      refine ⟨e', he', ht, hp', ?_, by rw [upd_ne _ _ hos]; exact ho'⟩
      unfold LE at hle' ⊢
      rw [upd_ne _ _ (by rw [ht]; exact h1), upd_ne _ _ hos]
      exact hle'
/-- a new node -/
theorem RI.more (r : RI N l lev Q h) (hN : N.OK) {u e : Nat} (he : e < N.E) (hown : N.own e = u) (hu : Q[h]? = some u) (hp : 0 < l e) (hv : N.to e ≠ N.sink) (hlt : lev (N.to e) < 0) :
    RI N l (upd lev (N.to e) (lev u + 1)) (Q ++ [N.to e]) h ∧ (∀ v, 0 ≤ lev v → 0 ≤ upd lev (N.to e) (lev u + 1) v) ∧ upd lev (N.to e) (lev u + 1) u = lev u := by
  have hmem : u ∈ Q := List.mem_of_getElem? hu
  obtain ⟨uV, us, u0⟩ := r.q_in u hmem
  have htV := hN.to_lt e he
  have hh : h < Q.length := by
    rcases Nat.lt_or_ge h Q.length with h1 | h1
    · exact h1
    · rw [List.getElem?_eq_none h1] at hu; cases hu
  have hqu := r.q_lev h u hu
  have hun : u ≠ N.to e := fun hc => by rw [← hc] at hlt; omega
  have keep : ∀ v, 0 ≤ lev v → upd lev (N.to e) (lev u + 1) v = lev v := fun v h0 => upd_ne _ _ (fun hc => by rw [hc] at h0; omega)
  have keep0 : ∀ v, 0 ≤ lev v → 0 ≤ upd lev (N.to e) (lev u + 1) v := fun v h0 => by rw [keep v h0]; exact h0
  refine ⟨⟨?_, ?_, ?_, ?_, ?_, ?_, ?_, ?_, ?_⟩, keep0, keep u u0⟩
  · intro x hx
    rcases List.mem_append.1 hx with hx | hx
    · obtain ⟨a, b, c⟩ := r.q_in x hx
      exact ⟨a, b, keep0 x c⟩
    · simp at hx; subst hx
      exact ⟨htV, hv, by rw [upd_same]; omega⟩
  · intro i x hx
    rcases Nat.lt_or_ge i Q.length with h1 | h1
    · rw [List.getElem?_append_left h1] at hx
      have := r.q_in x (List.mem_of_getElem? hx)
      rw [keep x this.2.2]
      exact r.q_lev i x hx
    · rw [List.getElem?_append_right h1] at hx
      have hi : i - Q.length = 0 := by
        rcases Nat.eq_zero_or_pos (i - Q.length) with h2 | h2
        · exact h2
        · rw [List.getElem?_eq_none (by simp; omega)] at hx; cases hx
      rw [hi] at hx
      simp at hx
      subst hx
      rw [upd_same]
      omega
  · intro v hvv h0
    by_cases h1 : v = N.to e
    · simp [h1]
    · rw [upd_ne _ _ h1] at h0
      exact List.mem_append_left _ (r.in_q v hvv h0)
  · intro v hvv
    by_cases h1 : v = N.to e
    · subst h1; rw [upd_same]; omega
    · rw [upd_ne _ _ h1]; exact r.neg v hvv
  · rw [cnt_upd lev _ _ (by omega) hlt _ htV, ← r.len]; simp
  · rw [keep 0 (by rw [r.zero]; exact Int.le_refl _)]; exact r.zero
  · rw [upd_ne _ _ (Ne.symm hv)]; exact r.sinkneg
  · intro i x hi hx e' he' ho hp'
    rw [List.getElem?_append_left (by omega)] at hx
    exact keep0 _ (r.closed i x hi hx e' he' ho hp')
  · intro v hvv h0 hv0
    by_cases h1 : v = N.to e
    · subst h1
      exact ⟨e, he, rfl, hp, by unfold LE; rw [upd_same, hown, keep u u0], by rw [hown]; exact keep0 u u0⟩
    · rw [upd_ne _ _ h1] at h0
      obtain ⟨e', he', ht, hp', hle', ho'⟩ := r.tree v hvv h0 hv0
      refine ⟨e', he', ht, hp', ?_, keep0 _ ho'⟩
      unfold LE at hle' ⊢
      rw [keep _ (by rw [ht]; exact h0), keep _ ho']
      exact hle'
/-- the node at the head is done -/
theorem RI.next (r : RI N l lev Q h) (hN : N.OK) {u : Nat} (hu : Q[h]? = some u) (hd : ∀ e, e < N.E → N.own e = u → 0 < l e → 0 ≤ lev (N.to e)) : RI N l lev Q (h + 1) :=
  ⟨r.q_in, r.q_lev, r.in_q, r.neg, r.len, r.zero, r.sinkneg, fun i x hi hx e he ho hp => by
    by_cases h1 : i = h
    · subst h1
      rw [hu] at hx
      simp at hx
      subst hx
      exact hd e he ho hp
    · exact r.closed i x (by omega) hx e he ho hp, r.tree⟩
theorem RI.start (hN : N.OK) : RI N l (upd (fun _ => -1) 0 0) [0] 0 := by
  have h2 := hN.two
  have hs : N.sink ≠ 0 := by unfold Net.sink; omega
  refine ⟨?_, ?_, ?_, ?_, ?_, upd_same _ _ _, upd_ne _ _ hs, ?_, ?_⟩
  · intro x hx; simp at hx; subst hx; exact ⟨by omega, Ne.symm hs, by rw [upd_same]; exact Int.le_refl _⟩
  · intro i x hx
    cases i with
    | zero => simp at hx; subst hx; rw [upd_same]; exact Int.le_refl _
    | succ i => simp at hx
  · intro v hv h0
    by_cases h1 : v = 0
    · simp [h1]
    · rw [upd_ne _ _ h1] at h0; omega
  · intro v hv
    by_cases h1 : v = 0
    · subst h1; rw [upd_same]; omega
    · rw [upd_ne _ _ h1]; exact Int.le_refl _
  · rw [cnt_upd _ _ _ (Int.le_refl _) (by omega) _ (by omega)]
    unfold cnt
    rw [sumE_congr (g := fun _ => 0) _ (fun i _ => by simp), sumE_zero]
    rfl
  · intro i x hi; omega
  · intro v hv h0 hv0
    rw [upd_ne _ _ hv0] at h0; omega
end
end Go.Proofs.Ybulkdxng.D
