import Derived.Test.YbulkdxngA
namespace Go.Proofs.Ybulkdxng
open Go.RowKit

theorem Yba.info43 : (Yba.prog.info? 43).map (fun i => (i.zero, i.size, i.bytes)) = some (some (.agg #[.slice none 0 0, .map none, .nilFunc]), 3, 40) := by kernel_rfl
theorem Yba.info40 : (Yba.prog.info? 40).map (fun i => (i.zero, i.size, i.bytes)) = some (some (.pointer none), 1, 8) := by kernel_rfl

/-- the map: nil, or a map whose entries say each key's last index among the first n keys -/
def MapAt (w : World) (r : Option Nat) (S n : Nat) (ks : Nat → ByteArray) : Prop :=
  r = none ∨ ∃ mb L c, r = some mb ∧ mb < w.heap.size ∧ w.heap[mb]? = some (.map (ents S L) c) ∧ Says ks n L
def FF (r : Option Nat) (S n : Nat) (ks : Nat → ByteArray) (k : ByteArray) : Option Addr :=
  if r = none then none else (lastIdx ks n k).map fun j => ⟨S, j * 3, none⟩
theorem MapAt.below {w w' : World} {r : Option Nat} {S n : Nat} {ks : Nat → ByteArray} (h : MapAt w r S n ks) (hb : Below w.heap.size w w') : MapAt w' r S n ks := by
  rcases h with h | ⟨mb, L, c, rfl, hlt, hm, hs⟩
  · exact .inl h
  · exact .inr ⟨mb, L, c, rfl, Nat.lt_of_lt_of_le hlt hb.size, by rw [hb.block mb hlt]; exact hm, hs⟩
theorem MapAt.look {w : World} {r : Option Nat} {S n : Nat} {ks : Nat → ByteArray} (h : MapAt w r S n ks) (k : ByteArray) :
    (Instr.lookup 39 (.map r) (.string k) false).run Yba.prog w = .ok (.pointer (FF r S n ks k)) w := by
  obtain ⟨z, hz, hz0, _⟩ := info_parts Yba.info40
  rcases h with rfl | ⟨mb, L, c, rfl, hlt, hm, hs⟩
  · simpa [FF] using run_look_nil Yba.underlying39 Yba.underlying9 hz hz0 w k
  · simpa [FF] using run_look Yba.underlying39 Yba.underlying9 hz hz0 ks n S L c hs mb w hm k
theorem MapAt.drew {w : World} {r : Option Nat} {S n : Nat} {ks : Nat → ByteArray} (h : MapAt w r S n ks) (m : Nat) : MapAt (w.drewN m) r S n ks := h
theorem MapAt.len {w : World} {r : Option Nat} {S n : Nat} {ks : Nat → ByteArray} (h : MapAt w r S n ks) (hr : r ≠ none) :
    (Builtin.len_ #[39] 3 #[.map r]).run Yba.prog w = .ok (.int .i64 (cnt ks n n)) w := by
  rcases h with rfl | ⟨mb, L, c, rfl, hlt, hm, hs⟩
  · exact absurd rfl hr
  · have := run_len_map Yba.underlying39 3 mb w _ c hm
    rw [this, ← hs.2]
    simp [ents]

set_option maxHeartbeats 400000 in
theorem items_nil (f : ByteArray) (w : World) :
    Calls Yba.prog 11 #[.pointer none, .string f] w fun e w' => e = .returned (.pointer none) ∧ w' = w := by
  go_enter Yba.func11, Yba.ntmps11
  go_wp2
  go_ret
  exact ⟨rfl, rfl⟩
set_option maxHeartbeats 400000 in
theorem items_empty (sb : Nat) (w : World) :
    Calls Yba.prog 11 #[.pointer (some ⟨sb, 0, none⟩), .string ⟨#[]⟩] w fun e w' => e = .returned (.pointer none) ∧ w' = w := by
  go_enter Yba.func11, Yba.ntmps11
  go_wp2
  go_ret
  exact ⟨rfl, rfl⟩
set_option maxHeartbeats 400000 in
theorem items_look (sb : Nat) (f : ByteArray) (r : Option Nat) (a : Option Addr) (w : World) (hf : f.toList.isEmpty = false) (hc : w.cell? ⟨sb, 1, none⟩ = some (.map r))
    (hl : (Instr.lookup 39 (.map r) (.string f) false).run Yba.prog w = .ok (.pointer a) w) :
    Calls Yba.prog 11 #[.pointer (some ⟨sb, 0, none⟩), .string f] w fun e w' => e = .returned (.pointer a) ∧ w' = w := by
  go_enter Yba.func11, Yba.ntmps11
  go_wp2
  go_ret
  exact ⟨rfl, rfl⟩
/-- what items answers -/
def GG (p : Option Addr) (r : Option Nat) (S n : Nat) (ks : Nat → ByteArray) (f : ByteArray) : Option Addr :=
  if p = none ∨ f = ⟨#[]⟩ then none else FF r S n ks f
theorem toList_empty (f : ByteArray) : f.toList.isEmpty = true ↔ f = ⟨#[]⟩ := by
  have h := bytes_eq_iff f ⟨#[]⟩
  have e : (⟨#[]⟩ : ByteArray).toList = [] := by decide +kernel
  rw [e] at h
  rw [← h]
  cases f.toList <;> simp
theorem items_any (p : Option Addr) (r : Option Nat) (S n : Nat) (ks : Nat → ByteArray) (f : ByteArray) (w : World) (hp : p = none ∨ ∃ sb, p = some ⟨sb, 0, none⟩ ∧ w.cell? ⟨sb, 1, none⟩ = some (.map r)) (hm : MapAt w r S n ks) :
    Calls Yba.prog 11 #[.pointer p, .string f] w fun e w' => e = .returned (.pointer (GG p r S n ks f)) ∧ w' = w := by
  rcases hp with rfl | ⟨sb, rfl, hc⟩
  · have : GG none r S n ks f = none := by simp [GG]
    rw [this]
    exact items_nil f w
  · by_cases hf : f = ⟨#[]⟩
    · subst hf
      have : GG (some ⟨sb, 0, none⟩) r S n ks ⟨#[]⟩ = none := by simp [GG]
      rw [this]
      exact items_empty sb w
    · have : GG (some ⟨sb, 0, none⟩) r S n ks f = FF r S n ks f := by simp [GG, hf]
      rw [this]
      refine items_look sb f r _ w ?_ hc (hm.look f)
      cases h : f.toList.isEmpty with
      | false => rfl
      | true => exact absurd ((toList_empty f).1 h) hf
end Go.Proofs.Ybulkdxng
