import Derived.Test.YbulkdxmsC
namespace Go.Proofs.Ybulkdxms
open Go.RowKit

/-- A slice of Members: nil; empty; or n members 'ms i' from ⟨b, o⟩ on. -/
def IsM (w : World) (x : Option Addr) (n c : Nat) (ms : Nat → Int × ByteArray × Bool) : Prop :=
  (x = none ∧ n = 0 ∧ c = 0) ∨ (∃ ad, x = some ad ∧ n = 0) ∨
  ∃ b o, x = some ⟨b, o, none⟩ ∧ 0 < n ∧ b < w.heap.size ∧ ∀ i, i < n → w.cell? ⟨b, o + i * 3, none⟩ = some (.int .u64 (ms i).1) ∧ w.cell? ⟨b, o + i * 3 + 1, none⟩ = some (.string (ms i).2.1) ∧ w.cell? ⟨b, o + i * 3 + 2, none⟩ = some (.bool (ms i).2.2)
def IsR (w : World) (x : Option Addr) (n c : Nat) (zs : Nat → Int) : Prop :=
  (x = none ∧ n = 0 ∧ c = 0) ∨ (∃ ad, x = some ad ∧ n = 0) ∨
  ∃ b o, x = some ⟨b, o, none⟩ ∧ 0 < n ∧ b < w.heap.size ∧ ∀ i, i < n → w.cell? ⟨b, o + i, none⟩ = some (.int .u64 (zs i))

theorem IsM.below {w w' : World} {x : Option Addr} {n c : Nat} {ms : Nat → Int × ByteArray × Bool} (h : IsM w x n c ms) (hb : Below w.heap.size w w') : IsM w' x n c ms := by
  rcases h with h | h | ⟨b, o, rfl, hn, hlt, hc⟩
  · exact .inl h
  · exact .inr (.inl h)
  · refine .inr (.inr ⟨b, o, rfl, hn, Nat.lt_of_lt_of_le hlt hb.size, fun i hi => ?_⟩)
    rw [hb.cell (p := ⟨b, _, none⟩) hlt, hb.cell (p := ⟨b, _, none⟩) hlt, hb.cell (p := ⟨b, _, none⟩) hlt]
    exact hc i hi
theorem IsR.below {w w' : World} {x : Option Addr} {n c : Nat} {zs : Nat → Int} (h : IsR w x n c zs) (hb : Below w.heap.size w w') : IsR w' x n c zs := by
  rcases h with h | h | ⟨b, o, rfl, hn, hlt, hc⟩
  · exact .inl h
  · exact .inr (.inl h)
  · refine .inr (.inr ⟨b, o, rfl, hn, Nat.lt_of_lt_of_le hlt hb.size, fun i hi => ?_⟩)
    rw [hb.cell (p := ⟨b, _, none⟩) hlt]
    exact hc i hi

def mcells (ms : Nat → Int × ByteArray × Bool) (j : Nat) : Value :=
  if j % 3 = 0 then .int .u64 (ms (j / 3)).1 else if j % 3 = 1 then .string (ms (j / 3)).2.1 else .bool (ms (j / 3)).2.2
theorem mcells0 (ms : Nat → Int × ByteArray × Bool) (i : Nat) : mcells ms (i * 3) = .int .u64 (ms i).1 := by simp [mcells]
theorem mcells1 (ms : Nat → Int × ByteArray × Bool) (i : Nat) : mcells ms (i * 3 + 1) = .string (ms i).2.1 := by
  unfold mcells
  rw [if_neg (by omega), if_pos (by omega), show (i * 3 + 1) / 3 = i by omega]
theorem mcells2 (ms : Nat → Int × ByteArray × Bool) (i : Nat) : mcells ms (i * 3 + 2) = .bool (ms i).2.2 := by
  unfold mcells
  rw [if_neg (by omega), if_neg (by omega), show (i * 3 + 2) / 3 = i by omega]
theorem mcells_one (ms : Nat → Int × ByteArray × Bool) (j : Nat) : (mcells ms j).oneCell' = true := by
  unfold mcells; split
  · rfl
  · split <;> rfl

theorem copym_any (x : Option Addr) (n c : Nat) (ms : Nat → Int × ByteArray × Bool) (w : World) (h : IsM w x n c ms) (hn : n ≤ 1048576) :
    Calls Yba.prog 4 #[.slice x n c] w fun e w' => ∃ x' c', e = .returned (.slice x' n c') ∧ x.isNone = x'.isNone ∧ IsM w' x' n c' ms ∧ Below w.heap.size w w' := by
  rcases h with ⟨rfl, rfl, rfl⟩ | ⟨ad, rfl, rfl⟩ | ⟨b, o, rfl, hpos, hlt, hc⟩
  · refine (copym_none w).mono ?_
    rintro e w' ⟨rfl, rfl⟩
    exact ⟨none, 0, rfl, rfl, .inl ⟨rfl, rfl, rfl⟩, Below.refl _ _⟩
  · refine (copym_some ad 0 c [] w (by simp) hn (by simp) (by simp)).mono ?_
    rintro e w' ⟨rfl, rfl⟩
    exact ⟨_, _, rfl, rfl, .inr (.inl ⟨_, rfl, rfl⟩), (Below.refl _ _).alloc (Nat.le_refl _) _⟩
  · refine (copym_some ⟨b, o, none⟩ n c ((List.range (n * 3)).map (mcells ms)) w (by simp) hn ?_ ?_).mono ?_
    · intro j v hj
      have hj3 : j < n * 3 := by
        have := (List.getElem?_eq_some_iff.1 hj).1
        simpa using this
      simp [hj3] at hj
      subst hj
      obtain ⟨h0, h1, h2⟩ := hc (j / 3) (by omega)
      rw [Addr.add_lit]
      have h3 : j % 3 = 0 ∨ j % 3 = 1 ∨ j % 3 = 2 := by omega
      rcases h3 with h | h | h
      · have e : j = j / 3 * 3 := by omega
        rw [e, mcells0]; rw [← e]; rw [← e] at h0; exact h0
      · have e : j = j / 3 * 3 + 1 := by omega
        rw [e, mcells1]; rw [← e]; rw [Nat.add_assoc, ← e] at h1; exact h1
      · have e : j = j / 3 * 3 + 2 := by omega
        rw [e, mcells2]; rw [← e]; rw [Nat.add_assoc, ← e] at h2; exact h2
    · intro v hv
      obtain ⟨j, _, rfl⟩ := List.mem_map.1 hv
      exact mcells_one ms j
    · rintro e w' ⟨rfl, rfl⟩
      refine ⟨_, _, rfl, rfl, .inr (.inr ⟨_, _, rfl, hpos, by simp, fun i hi => ?_⟩), (Below.refl _ _).alloc (Nat.le_refl _) _⟩
      have g0 : i * 3 < n * 3 := by omega
      have g1 : i * 3 + 1 < n * 3 := by omega
      have g2 : i * 3 + 2 < n * 3 := by omega
      simp [World.cell?_alloc_new, g0, g1, g2, mcells0, mcells1, mcells2]

theorem copyr_any (x : Option Addr) (n c : Nat) (zs : Nat → Int) (w : World) (h : IsR w x n c zs) (hn : n ≤ 1048576) :
    Calls Yba.prog 5 #[.slice x n c] w fun e w' => ∃ x' c', e = .returned (.slice x' n c') ∧ x.isNone = x'.isNone ∧ IsR w' x' n c' zs ∧ Below w.heap.size w w' := by
  rcases h with ⟨rfl, rfl, rfl⟩ | ⟨ad, rfl, rfl⟩ | ⟨b, o, rfl, hpos, hlt, hc⟩
  · refine (copyr_none w).mono ?_
    rintro e w' ⟨rfl, rfl⟩
    exact ⟨none, 0, rfl, rfl, .inl ⟨rfl, rfl, rfl⟩, Below.refl _ _⟩
  · refine (copyr_some ad 0 c [] w (by simp) hn (by simp) (by simp)).mono ?_
    rintro e w' ⟨rfl, rfl⟩
    exact ⟨_, _, rfl, rfl, .inr (.inl ⟨_, rfl, rfl⟩), (Below.refl _ _).alloc (Nat.le_refl _) _⟩
  · refine (copyr_some ⟨b, o, none⟩ n c ((List.range n).map fun i => .int .u64 (zs i)) w (by simp) hn ?_ ?_).mono ?_
    · intro j v hj
      have hj3 : j < n := by
        have := (List.getElem?_eq_some_iff.1 hj).1
        simpa using this
      simp [hj3] at hj
      subst hj
      rw [Addr.add_lit]
      exact hc j hj3
    · intro v hv
      obtain ⟨j, _, rfl⟩ := List.mem_map.1 hv
      rfl
    · rintro e w' ⟨rfl, rfl⟩
      refine ⟨_, _, rfl, rfl, .inr (.inr ⟨_, _, rfl, hpos, by simp, fun i hi => ?_⟩), (Below.refl _ _).alloc (Nat.le_refl _) _⟩
      simp [World.cell?_alloc_new, hi]

theorem member_any (x y : Option Addr) (n c m d : Nat) (id : Int) (ms : Nat → Int × ByteArray × Bool) (w : World) (h : IsM w x n c ms) (hn : n ≤ 1048576) :
    Calls Yba.prog 6 #[.agg #[.slice x n c, .slice y m d], .int .u64 id] w fun e w' => ((∃ j, j < n ∧ (ms j).1 = id ∧ (∀ i, i < j → (ms i).1 ≠ id) ∧ e = .returned (.tuple #[.agg #[.int .u64 (ms j).1, .string (ms j).2.1, .bool (ms j).2.2], .bool true])) ∨
       ((∀ i, i < n → (ms i).1 ≠ id) ∧ e = .returned (.tuple #[.agg #[.int .u64 0, .string ⟨#[]⟩, .bool false], .bool false]))) ∧ Below w.heap.size w w' := by
  have zero : ∀ x c, n = 0 → Calls Yba.prog 6 #[.agg #[.slice x n c, .slice y m d], .int .u64 id] w fun e w' => ((∃ j, j < n ∧ (ms j).1 = id ∧ (∀ i, i < j → (ms i).1 ≠ id) ∧ e = .returned (.tuple #[.agg #[.int .u64 (ms j).1, .string (ms j).2.1, .bool (ms j).2.2], .bool true])) ∨
       ((∀ i, i < n → (ms i).1 ≠ id) ∧ e = .returned (.tuple #[.agg #[.int .u64 0, .string ⟨#[]⟩, .bool false], .bool false]))) ∧ Below w.heap.size w w' := by
    intro x c h0
    subst h0
    refine (member_zero x y c m d id w).mono ?_
    rintro e w' ⟨rfl, hb⟩
    exact ⟨.inr ⟨by omega, rfl⟩, hb⟩
  rcases h with ⟨rfl, h0, rfl⟩ | ⟨ad, rfl, h0⟩ | ⟨b, o, rfl, hpos, hlt, hc⟩
  · exact zero _ _ h0
  · exact zero _ _ h0
  · exact member_pos b o n c m d y id ms w hn hlt hc

theorem samem_any (x y : Option Addr) (n c d : Nat) (ms : Nat → Int × ByteArray × Bool) (w : World) (hx : IsM w x n c ms) (hy : IsM w y n d ms) (hxy : x.isNone = y.isNone) (hn : n ≤ 1048576) :
    Calls Yba.prog 7 #[.slice x n c, .slice y n d] w fun e w' => e = .returned (.bool true) ∧ ∃ k, w' = w.drewN k := by
  by_cases h0 : n = 0
  · subst h0; exact samem_zero x y c d w hxy
  · rcases hx with ⟨_, h, _⟩ | ⟨_, _, h⟩ | ⟨b, o, rfl, hpos, hlt, hc⟩
    · omega
    · omega
    · rcases hy with ⟨_, h, _⟩ | ⟨_, _, h⟩ | ⟨b', o', rfl, hpos', hlt', hc'⟩
      · omega
      · omega
      · exact samem_pos b o b' o' n c d ms w hn hc hc'
theorem samer_any (x y : Option Addr) (n c d : Nat) (zs : Nat → Int) (w : World) (hx : IsR w x n c zs) (hy : IsR w y n d zs) (hxy : x.isNone = y.isNone) (hn : n ≤ 1048576) :
    Calls Yba.prog 8 #[.slice x n c, .slice y n d] w fun e w' => e = .returned (.bool true) ∧ ∃ k, w' = w.drewN k := by
  by_cases h0 : n = 0
  · subst h0; exact samer_zero x y c d w hxy
  · rcases hx with ⟨_, h, _⟩ | ⟨_, _, h⟩ | ⟨b, o, rfl, hpos, hlt, hc⟩
    · omega
    · omega
    · rcases hy with ⟨_, h, _⟩ | ⟨_, _, h⟩ | ⟨b', o', rfl, hpos', hlt', hc'⟩
      · omega
      · omega
      · exact samer_pos b o b' o' n c d zs w hn hc hc'
end Go.Proofs.Ybulkdxms
