import Derived.Test.YbulkdxngRows
import Derived.WalkKit
import Derived.WalkSpells
import Derived.WalkLawsBesides
import Derived.Deep.QuietTactic
import Derived.BigQuiet
import Derived.Deep.Cut
import Derived.MapKept
namespace Go.Proofs.Ybulkdxng
open Go.RowKit

/-! ### The plain part: the last index of a key; the list of entries -/
def lastIdx (ks : Nat → ByteArray) : Nat → ByteArray → Option Nat
  | 0, _ => none
  | i + 1, k => if ks i = k then some i else lastIdx ks i k
theorem lastIdx_lt {ks : Nat → ByteArray} {i : Nat} {k : ByteArray} {j : Nat} (h : lastIdx ks i k = some j) : j < i ∧ ks j = k := by
  induction i with
  | zero => simp [lastIdx] at h
  | succ i ih =>
    unfold lastIdx at h
    split at h
    · rename_i e; simp at h; subst h; exact ⟨by omega, e⟩
    · have := ih h; exact ⟨by omega, this.2⟩
theorem lastIdx_none {ks : Nat → ByteArray} {i : Nat} {k : ByteArray} (h : lastIdx ks i k = none) : ∀ j, j < i → ks j ≠ k := by
  induction i with
  | zero => intro j hj; omega
  | succ i ih =>
    unfold lastIdx at h
    split at h
    · cases h
    · rename_i e
      intro j hj
      by_cases e' : j = i
      · subst e'; exact e
      · exact ih h j (by omega)
theorem lastIdx_some {ks : Nat → ByteArray} {i j : Nat} (h : j < i) : ∃ l, lastIdx ks i (ks j) = some l ∧ l < i := by
  cases e : lastIdx ks i (ks j) with
  | none => exact absurd rfl (lastIdx_none e j h)
  | some l => exact ⟨l, rfl, (lastIdx_lt e).1⟩
theorem lastIdx_of {ks : Nat → ByteArray} {k : ByteArray} {i j : Nat} (hj : j < i) (hk : ks j = k) (h : ∀ l, j < l → l < i → ks l ≠ k) : lastIdx ks i k = some j := by
  induction i with
  | zero => omega
  | succ i ih =>
    unfold lastIdx
    by_cases e : j = i
    · subst e; simp [hk]
    · rw [if_neg (h i (by omega) (by omega))]
      exact ih (by omega) (fun l h1 h2 => h l h1 (by omega))
theorem lastIdx_no {ks : Nat → ByteArray} {k : ByteArray} {i : Nat} (h : ∀ l, l < i → ks l ≠ k) : lastIdx ks i k = none := by
  cases e : lastIdx ks i k with
  | none => rfl
  | some j => exact absurd (lastIdx_lt e).2 (h j (lastIdx_lt e).1)

/-- how many of the first m indices are the last of their key among the first i keys -/
def cnt (ks : Nat → ByteArray) (i : Nat) : Nat → Nat
  | 0 => 0
  | m + 1 => cnt ks i m + if lastIdx ks i (ks m) = some m then 1 else 0

/-- indices below m that are last of their key among the first i, and whose key is k: at most one, the last index of k -/
theorem cnt_succ_aux (ks : Nat → ByteArray) (i m : Nat) (hm : m ≤ i) :
    cnt ks (i + 1) m + (match lastIdx ks i (ks i) with | some j => if j < m then 1 else 0 | none => 0) = cnt ks i m := by
  induction m with
  | zero => cases lastIdx ks i (ks i) <;> simp [cnt]
  | succ m ih =>
    have ih := ih (by omega)
    simp only [cnt]
    have hu : lastIdx ks (i + 1) (ks m) = if ks i = ks m then some i else lastIdx ks i (ks m) := rfl
    rw [hu]
    by_cases e : ks i = ks m
    · rw [if_pos e]
      have h1 : ¬ (some i = some m) := by simp; omega
      rw [if_neg h1, ← e]
      cases hl : lastIdx ks i (ks i) with
      | none => exact absurd e.symm (lastIdx_none hl m (by omega))
      | some j =>
        simp only [hl] at ih ⊢
        by_cases hjm : j = m
        · subst hjm
          simp at ih ⊢
          omega
        · have h2 : ¬ (some j = some m) := by simp; exact hjm
          rw [if_neg h2]
          by_cases h3 : j < m
          · rw [if_pos h3] at ih; rw [if_pos (by omega)]; omega
          · rw [if_neg h3] at ih; rw [if_neg (by omega)]; omega
    · rw [if_neg e]
      cases hl : lastIdx ks i (ks i) with
      | none => simp only [hl] at ih ⊢; omega
      | some j =>
        simp only [hl] at ih ⊢
        have hj := lastIdx_lt hl
        by_cases hjm : j = m
        · subst hjm; exact absurd hj.2.symm e
        · have h4 : (if j < m + 1 then 1 else 0) = if j < m then 1 else 0 := by
            by_cases h3 : j < m
            · rw [if_pos h3, if_pos (by omega)]
            · rw [if_neg h3, if_neg (by omega)]
          rw [h4]
          omega
theorem cnt_succ (ks : Nat → ByteArray) (i : Nat) : cnt ks (i + 1) (i + 1) = cnt ks i i + if lastIdx ks i (ks i) = none then 1 else 0 := by
  have h := cnt_succ_aux ks i i (Nat.le_refl _)
  have hu : lastIdx ks (i + 1) (ks i) = some i := by simp [lastIdx]
  show cnt ks (i + 1) i + (if lastIdx ks (i + 1) (ks i) = some i then 1 else 0) = _
  rw [hu]
  cases hl : lastIdx ks i (ks i) with
  | none => simp [hl] at h ⊢; omega
  | some j =>
    have hj := lastIdx_lt hl
    simp [hl, hj.1] at h ⊢
    omega

/-- an entry: key, index, stamp -/
abbrev Ent := ByteArray × Nat × Nat
def ent (S : Nat) (e : Ent) : MapEntry := { key := .string e.1, val := .pointer (some ⟨S, e.2.1 * 3, none⟩), born := e.2.2 }
def look : List Ent → ByteArray → Nat → Option (Nat × Nat)
  | [], _, _ => none
  | e :: l, k, i => if k = e.1 then some (i, e.2.1) else look l k (i + 1)
theorem findNow_look (S : Nat) (k : ByteArray) : ∀ (l : List Ent) (i : Nat), Instr.findNow .string (.string k) (l.map (ent S)) i = some ((look l k i).map fun q => (q.1, Value.pointer (some ⟨S, q.2 * 3, none⟩)))
  | [], i => by simp [Instr.findNow, look]
  | e :: l, i => by
    simp only [List.map_cons, Instr.findNow, ent, Instr.sameNow, look]
    by_cases h : k = e.1
    · have h2 : (k == e.1) = true := (MapKept.bytes_beq _ _).2 h
      rw [h2, if_pos h]
      rfl
    · simp only [if_neg h]
      have : (k == e.1) = false := by
        cases hb : (k == e.1) with
        | false => rfl
        | true => exact absurd ((MapKept.bytes_beq _ _).1 hb) h
      rw [this]
      exact findNow_look S k l (i + 1)
theorem look_lt {k : ByteArray} : ∀ {l : List Ent} {i p v : Nat}, look l k i = some (p, v) → i ≤ p ∧ p < i + l.length ∧ ∃ b, l[p - i]? = some (k, v, b)
  | [], i, p, v, h => by simp [look] at h
  | e :: l, i, p, v, h => by
    unfold look at h
    split at h
    · rename_i hk
      simp at h
      obtain ⟨rfl, rfl⟩ := h
      exact ⟨by omega, by simp, e.2.2, by simp [hk]⟩
    · obtain ⟨h1, h2, b, h3⟩ := look_lt h
      refine ⟨by omega, by simp; omega, b, ?_⟩
      rw [show p - i = (p - (i + 1)) + 1 by omega]
      simpa using h3
/-- what the entries say: for each key its last index -/
def Says (ks : Nat → ByteArray) (i : Nat) (l : List Ent) : Prop := (∀ k, (look l k 0).map (·.2) = lastIdx ks i k) ∧ l.length = cnt ks i i
theorem says_zero (ks : Nat → ByteArray) : Says ks 0 [] := ⟨fun k => by simp [look, lastIdx], rfl⟩
theorem look_push {k : ByteArray} {x : Ent} : ∀ {l : List Ent} {i : Nat}, look (l ++ [x]) k i = (match look l k i with | some q => some q | none => if k = x.1 then some (i + l.length, x.2.1) else none)
  | [], i => by simp [look]
  | e :: l, i => by
    simp only [List.cons_append, look]
    by_cases h : k = e.1
    · simp [h]
    · simp only [if_neg h]
      rw [look_push]
      cases look l k (i + 1) with
      | none => simp [Nat.add_comm 1, Nat.add_assoc]
      | some q => rfl
theorem says_push {ks : Nat → ByteArray} {i : Nat} {l : List Ent} (c : Nat) (h : Says ks i l) (hn : look l (ks i) 0 = none) : Says ks (i + 1) (l ++ [(ks i, i, c)]) := by
  have hl : lastIdx ks i (ks i) = none := by rw [← h.1]; simp [hn]
  refine ⟨fun k => ?_, ?_⟩
  · rw [look_push]
    have hk := h.1 k
    simp only [lastIdx]
    cases hq : look l k 0 with
    | none =>
      rw [hq] at hk
      simp at hk
      by_cases e : k = ks i
      · simp [e]
      · have e' : ¬ ks i = k := fun h => e h.symm
        simp [e, e', ← hk]
    | some q =>
      rw [hq] at hk
      simp at hk
      have e' : ¬ ks i = k := by rintro rfl; rw [hl] at hk; cases hk
      simp [e', ← hk]
  · rw [List.length_append, h.2, cnt_succ, hl]
    simp
theorem look_set {k k0 : ByteArray} {v : Nat} : ∀ {l : List Ent} {i p u : Nat}, look l k0 i = some (p, u) → look (l.modify (p - i) fun e => (k0, v, e.2.2)) k i = if k = k0 then some (p, v) else look l k i
  | [], i, p, u, h => by simp [look] at h
  | e :: l, i, p, u, h => by
    unfold look at h
    split at h
    · rename_i hk
      simp at h
      obtain ⟨rfl, rfl⟩ := h
      rw [Nat.sub_self]
      show look ((k0, v, e.2.2) :: l) k i = _
      simp only [look]
      by_cases hq : k = k0
      · simp [hq]
      · have : ¬ k = e.1 := by rw [← hk]; exact hq
        simp [hq, this]
    · rename_i hk
      have h1 := look_lt h
      obtain ⟨q, rfl⟩ : ∃ q, p = i + 1 + q := ⟨p - (i + 1), by omega⟩
      have ih := look_set (k := k) (v := v) h
      rw [show i + 1 + q - (i + 1) = q by omega] at ih
      rw [show i + 1 + q - i = q + 1 by omega]
      show look (e :: l.modify q _) k i = _
      simp only [look]
      rw [ih]
      by_cases hq : k = e.1
      · have : ¬ k = k0 := by rintro rfl; exact hk hq
        simp [hq]
        intro h; exact absurd (hq.trans h) this
      · simp [hq]
theorem says_set {ks : Nat → ByteArray} {i : Nat} {l : List Ent} {p u : Nat} (h : Says ks i l) (hp : look l (ks i) 0 = some (p, u)) : Says ks (i + 1) (l.modify p fun e => (ks i, i, e.2.2)) := by
  have hl : lastIdx ks i (ks i) = some u := by rw [← h.1]; simp [hp]
  refine ⟨fun k => ?_, ?_⟩
  · have := look_set (k := k) (v := i) hp
    simp only [Nat.sub_zero] at this
    rw [this]
    simp only [lastIdx]
    by_cases e : k = ks i
    · simp [e]
    · have e' : ¬ ks i = k := fun h => e h.symm
      simp [e, e', h.1 k]
  · rw [List.length_modify, h.2, cnt_succ, hl]
    simp
end Go.Proofs.Ybulkdxng
