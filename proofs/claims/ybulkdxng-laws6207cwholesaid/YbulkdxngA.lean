import Derived.Test.YbulkdxngOps
namespace Go.Proofs.Ybulkdxng
open Go.RowKit

theorem Yba.info9 : (Yba.prog.info? 9).map (fun i => (i.zero, i.size, i.bytes)) = some (some (.string ByteArray.empty), 1, 16) := by kernel_rfl

def IsS (w : World) (x : Option Addr) (n c : Nat) (ks : Nat → ByteArray) : Prop :=
  (x = none ∧ n = 0 ∧ c = 0) ∨ (∃ ad, x = some ad ∧ n = 0) ∨
  ∃ b o, x = some ⟨b, o, none⟩ ∧ 0 < n ∧ b < w.heap.size ∧ ∀ i, i < n → w.cell? ⟨b, o + i, none⟩ = some (.string (ks i))
theorem IsS.below {w w' : World} {x : Option Addr} {n c : Nat} {ks : Nat → ByteArray} (h : IsS w x n c ks) (hb : Below w.heap.size w w') : IsS w' x n c ks := by
  rcases h with h | h | ⟨b, o, rfl, hn, hlt, hc⟩
  · exact .inl h
  · exact .inr (.inl h)
  · refine .inr (.inr ⟨b, o, rfl, hn, Nat.lt_of_lt_of_le hlt hb.size, fun i hi => ?_⟩)
    rw [hb.cell (p := ⟨b, _, none⟩) hlt]
    exact hc i hi

set_option maxHeartbeats 400000 in
theorem clone_nil (w : World) :
    Calls Yba.prog 10 #[.slice none 0 0] w fun e w' => e = .returned (.slice none 0 0) ∧ w' = w := by
  have hnil := fun (w : World) => Lib.run_eql_slice_nil (P := Yba.prog) w 37 9 none 0 0 0 0 Yba.underlying37
  go_enter Yba.func10, Yba.ntmps10
  go_wp2
  go_ret
  exact ⟨rfl, rfl⟩

set_option maxHeartbeats 400000 in
theorem clone_some (ad : Addr) (n c : Nat) (cs : List Value) (w : World) (hn : cs.length = n) (hb : n ≤ 1048576)
   (hsrc : ∀ j v, cs[j]? = some v → w.cell? (ad.add j) = some v) (h1 : ∀ v ∈ cs, v.oneCell' = true) :
    Calls Yba.prog 10 #[.slice (some ad) n c] w fun e w' => ∃ g cap, e = .returned (.slice (some ⟨g, 0, none⟩) n cap) ∧ w'.ownsRow w.heap.size 9 1 (.slice (some ⟨g, 0, none⟩) n cap) n cs ∧ Below w.heap.size w w' := by
  have hnil := fun (w : World) => Lib.run_eql_slice_nil (P := Yba.prog) w 37 9 (some ad) n c 0 0 Yba.underlying37
  obtain ⟨i0, hi, hz0, hz1, hz2⟩ := info_parts Yba.info9
  have hsrc' : ∀ j v, cs[j]? = some v → (w.alloc (.cells #[] 9)).cell? (ad.add j) = some v := by
    intro j v hj
    have h := hsrc j v hj
    rw [World.cell?_alloc_lt w _ _ (World.block_lt_of_cell? w _ h)]
    exact h
  have hmade := World.ownsRow_made (base := w.heap.size) (e := 9) (size := 1) w #[] 0 (Nat.le_refl _) (Nat.zero_le _) rfl
  have HM : Hid ((w.alloc (.cells #[] 9)).ownsRow w.heap.size 9 1 (.slice (some ⟨w.heap.size, 0, none⟩) 0 0) 0 []) := hmade
  clear hmade hsrc
  go_enter Yba.func10, Yba.ntmps10
  go_wp2_with (at_builtin; refine wpList_append_own _ rfl (.tmp 5) (.tmp 6) 37 rfl w.heap.size 9 i0 (.string ByteArray.empty) 1 16 Yba.underlying37 hi hz0 hz1 hz2 rfl (by decide) _ 0 [] rfl HM.out ad n c cs rfl (by omega) hsrc' h1 (by unfold maxLen; omega) (by omega) (by simp) ?_)
  intro v' w' hown hgrow hnn
  have hbel : Below w.heap.size w w' := ((Below.refl _ _).alloc (Nat.le_refl _) _).grown hgrow (by simp) (by intro k hk; simp [Value.ownBlock] at hk; omega)

  have hex : ∃ g cap, v' = .slice (some ⟨g, 0, none⟩) n cap := by
    rcases hown.2 with ⟨rfl, hz⟩ | ⟨g, cap, cur, rfl, _⟩
    · simp at hnn
    · exact ⟨g, cap, rfl⟩
  obtain ⟨g, cap, hv⟩ := hex
  rw [hv] at hown
  rw [hv]
  have HO : Hid (w'.ownsRow w.heap.size 9 1 (.slice (some ⟨g, 0, none⟩) n cap) n cs) := hown
  clear hown hsrc' h1 hi hz0 hz1 hz2 hgrow hnn hv
  go_wp2
  go_ret
  exact ⟨g, cap, rfl, HO.out, hbel⟩

theorem clone_any (x : Option Addr) (n c : Nat) (ks : Nat → ByteArray) (w : World) (h : IsS w x n c ks) (hn : n ≤ 1048576) :
    Calls Yba.prog 10 #[.slice x n c] w fun e w' => ∃ x' c', e = .returned (.slice x' n c') ∧ IsS w' x' n c' ks ∧ Below w.heap.size w w' := by
  rcases h with ⟨rfl, rfl, rfl⟩ | ⟨ad, rfl, rfl⟩ | ⟨b, o, rfl, hpos, hlt, hc⟩
  · refine (clone_nil w).mono ?_
    rintro e w' ⟨rfl, rfl⟩
    exact ⟨none, 0, rfl, .inl ⟨rfl, rfl, rfl⟩, Below.refl _ _⟩
  · refine (clone_some ad 0 c [] w (by simp) hn (by simp) (by simp)).mono ?_
    rintro e w' ⟨g, cap, rfl, _, hb⟩
    exact ⟨_, _, rfl, .inr (.inl ⟨_, rfl, rfl⟩), hb⟩
  · refine (clone_some ⟨b, o, none⟩ n c ((List.range n).map fun i => .string (ks i)) w (by simp) hn ?_ ?_).mono ?_
    · intro j v hj
      have hj3 : j < n := by
        have := (List.getElem?_eq_some_iff.1 hj).1
        simpa using this
      simp [hj3] at hj
      subst hj
      rw [Addr.add_lit]
      exact hc j hj3
    · intro v hv
      obtain ⟨j, _, rfl⟩ := List.mem_map.1 hv
      rfl
    · rintro e w' ⟨g, cap, rfl, hown, hb⟩
      refine ⟨_, _, rfl, .inr (.inr ⟨_, _, rfl, hpos, (hown.lt g rfl).2, fun i hi => ?_⟩), hb⟩
      have := hown.cells (g := g) rfl i (.string (ks i)) (by simp [hi])
      simpa [Addr.add_lit] using this

/-! ### slices.Equal over strings -/
set_option maxHeartbeats 400000 in
theorem equal_zero (x y : Option Addr) (c0 c1 : Nat) (w : World) :
    Calls Yba.prog 13 #[.slice x 0 c0, .slice y 0 c1] w fun e w' => e = .returned (.bool true) ∧ ∃ k, w' = w.drewN k := by
  go_enter Yba.func13, Yba.ntmps13
  go_wp2
  refine wp_loop_rounds 1 ?_
  rw [rounds_succ]
  go_wp2
  go_ret
  exact ⟨rfl, 0, rfl⟩
set_option maxHeartbeats 400000 in
theorem equal_pos (b0 o0 b1 o1 n c0 c1 : Nat) (zs : Nat → ByteArray) (w : World) (hn : n ≤ 1048576)
    (hx : ∀ i, i < n → w.cell? ⟨b0, o0 + i, none⟩ = some (.string (zs i))) (hy : ∀ i, i < n → w.cell? ⟨b1, o1 + i, none⟩ = some (.string (zs i))) :
    Calls Yba.prog 13 #[.slice (some ⟨b0, o0, none⟩) n c0, .slice (some ⟨b1, o1, none⟩) n c1] w fun e w' => e = .returned (.bool true) ∧ ∃ k, w' = w.drewN k := by
  go_enter Yba.func13, Yba.ntmps13
  go_wp2
  go_loopw [13] (fun i wr => ∃ k m : Nat, k ≤ n ∧ i = .int .i64 k ∧ wr = w.drewN m) (fun i _ => n - (intOf i).toNat)
  case atStart => exact ⟨0, 0, Nat.zero_le _, rfl, rfl⟩
  case round =>
    obtain ⟨k, m, hk, rfl, rfl⟩ := hrel
    by_cases hlt : k < n
    · have h0 := hx k hlt
      have h1 := hy k hlt
      have hlt' : (k : Int) < (n : Int) := by omega
      clear hx hy
      go_wp2
      go_quiet (fail)
      go_wp2
      go_roundw
      case rel => exact ⟨k + 1, m + nq, by omega, by go_num, rfl⟩
      case measure => simp [intOf]; omega
    · go_wp2
      go_ret
      exact ⟨rfl, m, rfl⟩
theorem equal_any (x y : Option Addr) (n c d : Nat) (zs : Nat → ByteArray) (w : World) (hx : IsS w x n c zs) (hy : IsS w y n d zs) (hn : n ≤ 1048576) :
    Calls Yba.prog 13 #[.slice x n c, .slice y n d] w fun e w' => e = .returned (.bool true) ∧ ∃ k, w' = w.drewN k := by
  by_cases h0 : n = 0
  · subst h0; exact equal_zero x y c d w
  · rcases hx with ⟨_, h, _⟩ | ⟨_, _, h⟩ | ⟨b, o, rfl, hpos, hlt, hc⟩
    · omega
    · omega
    · rcases hy with ⟨_, h, _⟩ | ⟨_, _, h⟩ | ⟨b', o', rfl, hpos', hlt', hc'⟩
      · omega
      · omega
      · exact equal_pos b o b' o' n c d zs w hn hc hc'

/-! ### zzs6207clast -/
def lastI (ks : Nat → ByteArray) (n : Nat) (k : ByteArray) : Int := match lastIdx ks n k with | some j => (j : Int) | none => -1
theorem lastI_some {ks : Nat → ByteArray} {n j : Nat} {k : ByteArray} (h : lastIdx ks n k = some j) : lastI ks n k = j := by simp [lastI, h]
theorem lastI_none {ks : Nat → ByteArray} {n : Nat} {k : ByteArray} (h : lastIdx ks n k = none) : lastI ks n k = -1 := by simp [lastI, h]
theorem bytes_eq_iff (a b : ByteArray) : (a.toList == b.toList) = true ↔ a = b := by rw [← beq_toListBytes]; exact MapKept.bytes_beq a b

set_option maxHeartbeats 400000 in
theorem last_zero (x : Option Addr) (c : Nat) (k : ByteArray) (w : World) :
    Calls Yba.prog 12 #[.slice x 0 c, .string k] w fun e w' => e = .returned (.int .i64 (-1)) ∧ w' = w := by
  go_enter Yba.func12, Yba.ntmps12
  go_wp2
  refine wp_loop_rounds 1 ?_
  rw [rounds_succ]
  go_wp2
  go_ret
  exact ⟨rfl, rfl⟩
set_option maxHeartbeats 400000 in
theorem last_pos (b o n c : Nat) (ks : Nat → ByteArray) (k : ByteArray) (w : World) (hn : n ≤ 1048576) (hx : ∀ i, i < n → w.cell? ⟨b, o + i, none⟩ = some (.string (ks i))) :
    Calls Yba.prog 12 #[.slice (some ⟨b, o, none⟩) n c, .string k] w fun e w' => e = .returned (.int .i64 (lastI ks n k)) ∧ w' = w := by
  go_enter Yba.func12, Yba.ntmps12
  go_wp2
  go_loop [5] (fun i => ∃ m : Nat, m ≤ n ∧ i = .int .i64 ((m : Int) - 1) ∧ ∀ j, m ≤ j → j < n → ks j ≠ k) (fun i => (intOf i + 1).toNat)
  case atStart => exact ⟨n, Nat.le_refl _, rfl, by omega⟩
  case round =>
    obtain ⟨m, hm, rfl, hne⟩ := hrel
    have HN : Hid (∀ j, m ≤ j → j < n → ks j ≠ k) := hne
    clear hne
    by_cases hm0 : 0 < m
    · obtain ⟨m', rfl⟩ : ∃ m', m = m' + 1 := ⟨m - 1, by omega⟩
      have e1 : ((m' + 1 : Nat) : Int) - 1 = m' := by omega
      rw [e1]
      have hc := hx m' (by omega)
      have hmn : (m' : Int) < (n : Int) := by omega
      clear hx e1
      by_cases hq : ((ks m').toList == k.toList) = true
      · have hl : lastI ks n k = m' := lastI_some (lastIdx_of (by omega) ((bytes_eq_iff _ _).1 hq) (fun l h1 h2 => HN.out l (by omega) h2))
        have HL : Hid (lastI ks n k = m') := hl
        clear hl
        go_wp2
        go_ret
        exact ⟨by rw [HL.out]; rfl, rfl⟩
      · have hq' : ((ks m').toList == k.toList) = false := by simpa using hq
        have hq2 : ks m' ≠ k := fun h => hq ((bytes_eq_iff _ _).2 h)
        have HQ : Hid (ks m' ≠ k) := hq2
        clear hq2 hq
        go_wp2
        go_round
        case rel =>
          refine ⟨m', by omega, rfl, fun j h1 h2 => ?_⟩
          by_cases e : j = m'
          · subst e; exact HQ.out
          · exact HN.out j (by omega) h2
        case measure => simp [intOf]
    · have hz : m = 0 := by omega
      subst hz
      have hl : lastI ks n k = -1 := lastI_none (lastIdx_no (fun l h => HN.out l (Nat.zero_le _) h))
      have HL : Hid (lastI ks n k = -1) := hl
      clear hl hx
      go_wp2
      go_ret
      exact ⟨by rw [HL.out]; rfl, rfl⟩
theorem last_any (x : Option Addr) (n c : Nat) (ks : Nat → ByteArray) (k : ByteArray) (w : World) (h : IsS w x n c ks) (hn : n ≤ 1048576) :
    Calls Yba.prog 12 #[.slice x n c, .string k] w fun e w' => e = .returned (.int .i64 (lastI ks n k)) ∧ w' = w := by
  rcases h with ⟨rfl, rfl, rfl⟩ | ⟨ad, rfl, rfl⟩ | ⟨b, o, rfl, hpos, hlt, hc⟩
  · exact last_zero none 0 k w
  · exact last_zero (some ad) c k w
  · exact last_pos b o n c ks k w hn hc
end Go.Proofs.Ybulkdxng
