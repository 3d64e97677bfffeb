import Derived.Test.YbulkdxngRows
namespace Go.Proofs.Ybulkdxng.D
set_option linter.unusedVariables false

/-! ### Sums and updates -/
def upd (f : Nat → Int) (i : Nat) (z : Int) : Nat → Int := fun j => if j = i then z else f j
def updN (f : Nat → Nat) (i : Nat) (z : Nat) : Nat → Nat := fun j => if j = i then z else f j
theorem upd_same (f : Nat → Int) (i : Nat) (z : Int) : upd f i z i = z := by simp [upd]
theorem upd_ne (f : Nat → Int) {i j : Nat} (z : Int) (h : j ≠ i) : upd f i z j = f j := by simp [upd, h]
theorem updN_same (f : Nat → Nat) (i : Nat) (z : Nat) : updN f i z i = z := by simp [updN]
theorem updN_ne (f : Nat → Nat) {i j : Nat} (z : Nat) (h : j ≠ i) : updN f i z j = f j := by simp [updN, h]
def sumE : Nat → (Nat → Int) → Int
  | 0, _ => 0
  | k + 1, f => sumE k f + f k
theorem sumE_congr {f g : Nat → Int} : ∀ k, (∀ i, i < k → f i = g i) → sumE k f = sumE k g
  | 0, _ => rfl
  | k + 1, h => by
    simp only [sumE]
    rw [sumE_congr k (fun i hi => h i (by omega)), h k (by omega)]
theorem sumE_le {f g : Nat → Int} : ∀ k, (∀ i, i < k → f i ≤ g i) → sumE k f ≤ sumE k g
  | 0, _ => Int.le_refl _
  | k + 1, h => by
    have h1 := sumE_le k (fun i hi => h i (by omega))
    have h2 := h k (by omega)
    simp only [sumE]
    omega
theorem sumE_zero : ∀ k, sumE k (fun _ => 0) = 0
  | 0 => rfl
  | k + 1 => by simp [sumE, sumE_zero k]
theorem sumE_sub (f g : Nat → Int) : ∀ k, sumE k (fun i => f i - g i) = sumE k f - sumE k g
  | 0 => rfl
  | k + 1 => by simp only [sumE, sumE_sub f g k]; omega
theorem sumE_add (f g : Nat → Int) : ∀ k, sumE k (fun i => f i + g i) = sumE k f + sumE k g
  | 0 => rfl
  | k + 1 => by simp only [sumE, sumE_add f g k]; omega
theorem sumE_upd (om f : Nat → Int) (i : Nat) (z : Int) : ∀ k, i < k → sumE k (fun e => om e * upd f i z e) = sumE k (fun e => om e * f e) + om i * (z - f i)
  | 0, h => by omega
  | k + 1, h => by
    simp only [sumE]
    by_cases e : i = k
    · subst e
      rw [sumE_congr (f := fun e => om e * upd f i z e) (g := fun e => om e * f e) i (fun j hj => by show om j * upd f i z j = _; rw [upd_ne _ _ (by omega)]), upd_same, Int.mul_sub]
      omega
    · rw [sumE_upd om f i z k (by omega), upd_ne _ _ (by omega)]
      omega

/-! ### The network -/
structure Net where
  V : Nat
  E : Nat
  first : Nat → Nat
  to : Nat → Nat
  back : Nat → Nat
  own : Nat → Nat
  orig : Nat → Int
def Net.sink (N : Net) : Nat := N.V - 1
structure Net.OK (N : Net) : Prop where
  two : 2 ≤ N.V
  mono : ∀ u, u < N.V → N.first u ≤ N.first (u + 1)
  top : ∀ u, u ≤ N.V → N.first u ≤ N.E
  slot : ∀ u e, u < N.V → N.first u ≤ e → e < N.first (u + 1) → N.own e = u
  own_lt : ∀ e, e < N.E → N.own e < N.V
  own_lo : ∀ e, e < N.E → N.first (N.own e) ≤ e
  own_hi : ∀ e, e < N.E → e < N.first (N.own e + 1)
  to_lt : ∀ e, e < N.E → N.to e < N.V
  back_lt : ∀ e, e < N.E → N.back e < N.E
  back_back : ∀ e, e < N.E → N.back (N.back e) = e
  own_back : ∀ e, e < N.E → N.own (N.back e) = N.to e
  pair : ∀ e, e < N.E → N.orig e = 0 ∨ N.orig (N.back e) = 0
  hi : ∀ e, e < N.E → N.orig e ≤ 9223372036854775807
  lo : ∀ e, e < N.E → -1099511627776 ≤ N.orig e
theorem Net.OK.to_back {N : Net} (h : N.OK) {e : Nat} (he : e < N.E) : N.to (N.back e) = N.own e := by
  rw [← h.own_back _ (h.back_lt e he), h.back_back e he]

def Val (N : Net) (l : Nat → Int) : Prop := ∀ e, e < N.E → l e + l (N.back e) = N.orig e + N.orig (N.back e) ∧ (0 ≤ N.orig e → 0 ≤ N.orig (N.back e) → 0 ≤ l e) ∧ (N.orig e < 0 ∨ N.orig (N.back e) < 0 → l e = N.orig e)
theorem Val.orig {N : Net} : Val N N.orig := fun e he => ⟨rfl, fun h _ => h, fun _ => rfl⟩
theorem Val.pos {N : Net} (h : N.OK) {l : Nat → Int} (hv : Val N l) {e : Nat} (he : e < N.E) (hp : 0 < l e) : 0 ≤ N.orig e ∧ 0 ≤ N.orig (N.back e) := by
  obtain ⟨_, _, h3⟩ := hv e he
  rcases h.pair e he with h0 | h0
  · refine ⟨by omega, ?_⟩
    by_cases hb : N.orig (N.back e) < 0
    · have := h3 (.inr hb); omega
    · omega
  · refine ⟨?_, by omega⟩
    by_cases hb : N.orig e < 0
    · have := h3 (.inl hb); omega
    · omega
theorem Val.bounds {N : Net} (h : N.OK) {l : Nat → Int} (hv : Val N l) {e : Nat} (he : e < N.E) : -1099511627776 ≤ l e ∧ l e ≤ 9223372036854775807 := by
  obtain ⟨h1, h2, h3⟩ := hv e he
  obtain ⟨_, g2, g3⟩ := hv _ (h.back_lt e he)
  rw [h.back_back e he] at g2 g3
  have a1 := h.hi e he
  have a2 := h.lo e he
  have a3 := h.hi _ (h.back_lt e he)
  by_cases c1 : N.orig e < 0 ∨ N.orig (N.back e) < 0
  · rw [h3 c1]; omega
  · have b1 := h2 (by omega) (by omega)
    have b2 := g2 (by omega) (by omega)
    rcases h.pair e he with h0 | h0 <;> omega

/-! ### Level edges, ways, dead nodes -/
variable (N : Net) (lev : Nat → Int)
/-- a level edge -/
def LE (e : Nat) : Prop := lev (N.to e) = lev (N.own e) + 1
/-- a way of n level edges to the sink -/
def Way (l : Nat → Int) : Nat → Nat → Prop
  | 0, v => v = N.sink
  | n + 1, v => ∃ e, e < N.E ∧ 0 < l e ∧ LE N lev e ∧ N.own e = v ∧ Way l n (N.to e)
def Path (l : Nat → Int) (v : Nat) : Prop := ∃ n, Way N lev l n v
/-- level edges only fall -/
def Falls (l l' : Nat → Int) : Prop := ∀ e, e < N.E → LE N lev e → l' e ≤ l e
variable {N lev}
theorem Path.sink {l : Nat → Int} : Path N lev l N.sink := ⟨0, rfl⟩
theorem Path.step {l : Nat → Int} (e : Nat) (he : e < N.E) (hp : 0 < l e) (hl : LE N lev e) (p : Path N lev l (N.to e)) : Path N lev l (N.own e) := by
  obtain ⟨n, p⟩ := p
  exact ⟨n + 1, e, he, hp, hl, rfl, p⟩
theorem Path.mono {l l' : Nat → Int} (h : Falls N lev l l') {v : Nat} (p : Path N lev l' v) : Path N lev l v := by
  obtain ⟨n, p⟩ := p
  refine ⟨n, ?_⟩
  induction n generalizing v with
  | zero => exact p
  | succ n ih =>
    obtain ⟨e, he, hp, hl, ho, p⟩ := p
    exact ⟨e, he, by have := h e he hl; omega, hl, ho, ih p⟩
def Useless (N : Net) (lev : Nat → Int) (l : Nat → Int) (e : Nat) : Prop := l e ≤ 0 ∨ ¬ LE N lev e ∨ ¬ Path N lev l (N.to e)
theorem Useless.mono {l l' : Nat → Int} (h : Falls N lev l l') {e : Nat} (he : e < N.E) (u : Useless N lev l e) : Useless N lev l' e := by
  by_cases hl : LE N lev e
  · rcases u with u | u | u
    · exact .inl (by have := h e he hl; omega)
    · exact .inr (.inl u)
    · exact .inr (.inr fun p => u (p.mono h))
  · exact .inr (.inl hl)
theorem dead_of {l : Nat → Int} {u : Nat} (hN : N.OK) (hs : u ≠ N.sink) (hu : ∀ e, e < N.E → N.own e = u → Useless N lev l e) : ¬ Path N lev l u := by
  rintro ⟨n, p⟩
  cases n with
  | zero => exact hs p
  | succ n =>
    obtain ⟨e, he, hp, hl, ho, p⟩ := p
    rcases hu e he ho with h | h | h
    · omega
    · exact h hl
    · exact h ⟨n, p⟩

structure St (N : Net) (lev : Nat → Int) (l : Nat → Int) (nx : Nat → Nat) : Prop where
  val : Val N l
  lo : ∀ v, v < N.V → N.first v ≤ nx v
  hi : ∀ v, v < N.V → nx v ≤ N.first (v + 1)
  done : ∀ v e, v < N.V → N.first v ≤ e → e < nx v → Useless N lev l e

structure Sent (N : Net) (lev : Nat → Int) (u : Nat) (s : Int) (l : Nat → Int) (nx : Nat → Nat) (l' : Nat → Int) (nx' : Nat → Nat) : Prop where
  nonneg : 0 ≤ s
  falls : Falls N lev l l'
  lower : ∀ e, e < N.E → lev (N.own e) < lev u → l' e = l e
  next : ∀ v, v < N.V → lev v < lev u → nx' v = nx v
  zero : s = 0 → ∀ e, e < N.E → l' e = l e
  sum : ∀ (om ph : Nat → Int), (∀ e, e < N.E → om e - om (N.back e) = ph (N.own e) - ph (N.to e)) → sumE N.E (fun e => om e * l' e) = sumE N.E (fun e => om e * l e) - s * (ph u - ph N.sink)

theorem Sent.refl (u : Nat) (l : Nat → Int) (nx : Nat → Nat) : Sent N lev u 0 l nx l nx :=
  ⟨Int.le_refl _, fun _ _ _ => Int.le_refl _, fun _ _ _ => rfl, fun _ _ _ => rfl, fun _ _ _ => rfl, fun _ _ _ => by simp⟩
theorem Sent.sink (s : Int) (hs : 0 ≤ s) (l : Nat → Int) (nx : Nat → Nat) : Sent N lev N.sink s l nx l nx :=
  ⟨hs, fun _ _ _ => Int.le_refl _, fun _ _ _ => rfl, fun _ _ _ => rfl, fun _ _ _ => rfl, fun _ _ _ => by simp⟩

/-- the edge is passed over -/
theorem skip {u e : Nat} {s : Int} {l l1 : Nat → Int} {nx n1 : Nat → Nat} (hN : N.OK) (hu : u < N.V) (hst : St N lev l1 n1) (hr : Sent N lev u s l nx l1 n1) (he : n1 u = e) (hlt : e < N.first (u + 1)) (hus : Useless N lev l1 e) :
    St N lev l1 (updN n1 u (e + 1)) ∧ Sent N lev u s l nx l1 (updN n1 u (e + 1)) := by
  refine ⟨⟨hst.val, fun v hv => ?_, fun v hv => ?_, fun v e' hv h1 h2 => ?_⟩, ⟨hr.nonneg, hr.falls, hr.lower, fun v hv hl => ?_, hr.zero, hr.sum⟩⟩
  · by_cases h : v = u
    · subst h; rw [updN_same]; have := hst.lo v hv; omega
    · rw [updN_ne _ _ h]; exact hst.lo v hv
  · by_cases h : v = u
    · subst h; rw [updN_same]; omega
    · rw [updN_ne _ _ h]; exact hst.hi v hv
  · by_cases h : v = u
    · subst h
      rw [updN_same] at h2
      by_cases h3 : e' = e
      · subst h3; exact hus
      · exact hst.done v e' hv h1 (by omega)
    · rw [updN_ne _ _ h] at h2; exact hst.done v e' hv h1 h2
  · by_cases h : v = u
    · subst h; omega
    · rw [updN_ne _ _ h]; exact hr.next v hv hl

/-- got is sent along the edge e of u -/
theorem push {u e : Nat} {s got : Int} {l l1 l2 : Nat → Int} {nx n1 n2 : Nat → Nat} (hN : N.OK) (hu : u < N.V) (hr : Sent N lev u s l nx l1 n1) (he : e < N.E) (hown : N.own e = u) (hpos : 0 < l1 e) (hle : LE N lev e)
    (hst2 : St N lev l2 n2) (hr2 : Sent N lev (N.to e) got l1 n1 l2 n2) (hgot : got ≤ l1 e) :
    St N lev (upd (upd l2 e (l2 e - got)) (N.back e) (l2 (N.back e) + got)) n2 ∧ Sent N lev u (s + got) l nx (upd (upd l2 e (l2 e - got)) (N.back e) (l2 (N.back e) + got)) n2 ∧ Falls N lev l2 (upd (upd l2 e (l2 e - got)) (N.back e) (l2 (N.back e) + got)) ∧ l2 e = l1 e ∧ n2 u = n1 u := by
  have hlev : lev (N.to e) = lev u + 1 := by unfold LE at hle; rw [hown] at hle; exact hle
  have hsame : l2 e = l1 e := hr2.lower e he (by rw [hown, hlev]; omega)
  have hnext : n2 u = n1 u := hr2.next u hu (by omega)
  have hb : N.back e < N.E := hN.back_lt e he
  have hbb := hN.back_back e he
  have hob := hN.own_back e he
  have htb := hN.to_back he
  have hne : N.back e ≠ e := by
    intro h
    rw [h, hown] at hob
    rw [← hob] at hlev
    omega
  have hg0 := hr2.nonneg
  obtain ⟨o1, o2⟩ := hst2.val.pos hN he (by omega)
  have vb := hst2.val (N.back e) hb
  rw [hbb] at vb
  have ve := hst2.val e he
  generalize hL : upd (upd l2 e (l2 e - got)) (N.back e) (l2 (N.back e) + got) = L
  have Le : L e = l2 e - got := by rw [← hL, upd_ne _ _ (Ne.symm hne), upd_same]
  have Lb : L (N.back e) = l2 (N.back e) + got := by rw [← hL, upd_same]
  have Lo : ∀ e', e' ≠ e → e' ≠ N.back e → L e' = l2 e' := fun e' h1 h2 => by rw [← hL, upd_ne _ _ h2, upd_ne _ _ h1]
  have hf : Falls N lev l2 L := by
    intro e' he' hl'
    by_cases h1 : e' = e
    · subst h1; rw [Le]; omega
    · by_cases h2 : e' = N.back e
      · subst h2
        unfold LE at hl'
        rw [hob, htb, hown] at hl'
        omega
      · rw [Lo e' h1 h2]; exact Int.le_refl _
  have hval : Val N L := by
    intro e' he'
    by_cases h1 : e' = e
    · subst h1
      rw [Le, Lb]
      exact ⟨by omega, fun _ _ => by omega, fun h => by omega⟩
    · by_cases h2 : e' = N.back e
      · subst h2
        rw [hbb, Le, Lb]
        have := vb.2.1 o2 o1
        exact ⟨by omega, fun _ _ => by omega, fun h => by omega⟩
      · have h3 : N.back e' ≠ e := fun h => h2 (by rw [← h, hN.back_back e' he'])
        have h4 : N.back e' ≠ N.back e := fun h => h1 (by rw [← hN.back_back e' he', h, hbb])
        rw [Lo e' h1 h2, Lo _ h3 h4]
        exact hst2.val e' he'
  refine ⟨⟨hval, hst2.lo, hst2.hi, fun v e' hv h1 h2 => (hst2.done v e' hv h1 h2).mono hf (by have := hN.top (v + 1) (by omega); have := hst2.hi v hv; omega)⟩, ?_, hf, hsame, hnext⟩
  refine ⟨by have := hr.nonneg; omega, fun e' h1 h2 => ?_, fun e' h1 h2 => ?_, fun v hv hl => ?_, fun h e' h1 => ?_, fun om ph hom => ?_⟩
  · have a := hr.falls e' h1 h2
    have b := hr2.falls e' h1 h2
    have c := hf e' h1 h2
    omega
  · have h3 : e' ≠ e := fun h => by rw [h, hown] at h2; omega
    have h4 : e' ≠ N.back e := fun h => by rw [h, hob] at h2; omega
    rw [Lo e' h3 h4, hr2.lower e' h1 (by omega), hr.lower e' h1 h2]
  · rw [hr2.next v hv (by omega), hr.next v hv hl]
  · have hs0 : s = 0 := by have := hr.nonneg; omega
    have hg : got = 0 := by have := hr.nonneg; omega
    have a := hr2.zero hg e' h1
    have b := hr.zero hs0 e' h1
    by_cases h3 : e' = e
    · subst h3; rw [Le, hg]; omega
    · by_cases h4 : e' = N.back e
      · subst h4; rw [Lb, hg]; omega
      · rw [Lo e' h3 h4]; omega
  · have a := hr.sum om ph hom
    have b := hr2.sum om ph hom
    have c := hom e he
    rw [← hL, sumE_upd om _ _ _ _ hb, sumE_upd om _ _ _ _ he, upd_ne _ _ hne, b, a]
    rw [hown] at c
    have e1 : om e * (l2 e - got - l2 e) = - (got * om e) := by rw [show l2 e - got - l2 e = - got by omega, Int.mul_neg, Int.mul_comm]
    have e2 : om (N.back e) * (l2 (N.back e) + got - l2 (N.back e)) = got * om (N.back e) := by rw [show l2 (N.back e) + got - l2 (N.back e) = got by omega, Int.mul_comm]
    rw [e1, e2, Int.add_mul]
    have e3 : got * om e - got * om (N.back e) = got * ph u - got * ph (N.to e) := by rw [← Int.mul_sub, c, Int.mul_sub]
    rw [Int.mul_sub s, Int.mul_sub got, Int.mul_sub got]
    omega
end Go.Proofs.Ybulkdxng.D
