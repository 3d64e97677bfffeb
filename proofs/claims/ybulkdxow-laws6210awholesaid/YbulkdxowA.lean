import Derived.Test.YbulkdxowRows
import Derived.WalkKit
import Derived.WalkSpells
import Derived.WalkLawsBesides
import Derived.Deep.QuietTactic
import Derived.BigQuiet
import Derived.Deep.Cut
import Derived.Deep.CutRange
import Derived.OpenShut
namespace Go.Proofs.Ybulkdxow
open Go.RowKit

/-! ### The plain part: one step of a varint's reading; the whole reading -/
def stp (a q : Int) (k : Nat) : Int := bits BinOp.or IntKind.u64 a (IntKind.u64.wrap (IntKind.u64.wrap (bits BinOp.and IntKind.u8 q 127) * 2 ^ (7 * k)))
def uvGo (bs : Nat → Int) (n : Nat) : Nat → Nat → Int → Option (Int × Nat)
  | 0, _, _ => none
  | f + 1, i, a => if i < n then (if i = 9 ∧ 1 < bs i then none else if bs i < 128 then some (stp a (bs i) i, i + 1) else uvGo bs n f (i + 1) (stp a (bs i) i)) else none
def uv (bs : Nat → Int) (n : Nat) : Option (Int × Nat) := uvGo bs n 10 0 0
theorem stp_bd (a q : Int) (k : Nat) : 0 ≤ stp a q k ∧ stp a q k ≤ 18446744073709551615 := by
  unfold stp
  have h := wf_bits .or .u64 a (IntKind.u64.wrap (IntKind.u64.wrap (bits BinOp.and IntKind.u8 q 127) * 2 ^ (7 * k)))
  have := bounds_u64 h
  omega
theorem uvGo_bd (bs : Nat → Int) (n : Nat) : ∀ (f i : Nat) (a v : Int) (w : Nat), uvGo bs n f i a = some (v, w) → 0 ≤ v ∧ v ≤ 18446744073709551615 ∧ i < w ∧ w ≤ n
  | 0, i, a, v, w, h => by simp [uvGo] at h
  | f + 1, i, a, v, w, h => by
    unfold uvGo at h
    split at h
    · split at h
      · cases h
      · split at h
        · simp at h
          obtain ⟨rfl, rfl⟩ := h
          have := stp_bd a (bs i) i
          omega
        · have := uvGo_bd bs n f (i + 1) _ v w h
          omega
    · cases h
theorem uv_bd {bs : Nat → Int} {n : Nat} {v : Int} {w : Nat} (h : uv bs n = some (v, w)) : 0 ≤ v ∧ v ≤ 18446744073709551615 ∧ 0 < w ∧ w ≤ n := uvGo_bd bs n 10 0 0 v w h
theorem uv_zero (bs : Nat → Int) : uv bs 0 = none := rfl
theorem uvGo_end {bs : Nat → Int} {n f i : Nat} {a : Int} (h : ¬ i < n) : uvGo bs n f i a = none := by
  cases f with
  | zero => rfl
  | succ f => simp [uvGo, h]
theorem uvGo_over {bs : Nat → Int} {n f i : Nat} {a : Int} (h9 : i = 9) (hq : 1 < bs i) : uvGo bs n (f + 1) i a = none := by
  unfold uvGo
  split
  · rw [if_pos ⟨h9, hq⟩]
  · rfl
theorem uvGo_last {bs : Nat → Int} {n f i : Nat} {a : Int} (hi : i < n) (h9 : ¬ (i = 9 ∧ 1 < bs i)) (hq : bs i < 128) : uvGo bs n (f + 1) i a = some (stp a (bs i) i, i + 1) := by
  unfold uvGo
  rw [if_pos hi, if_neg h9, if_pos hq]
theorem uvGo_more {bs : Nat → Int} {n f i : Nat} {a : Int} (hi : i < n) (h9 : ¬ (i = 9 ∧ 1 < bs i)) (hq : ¬ bs i < 128) : uvGo bs n (f + 1) i a = uvGo bs n f (i + 1) (stp a (bs i) i) := by
  conv => lhs; unfold uvGo
  rw [if_pos hi, if_neg h9, if_neg hq]

/-- a slice of bytes -/
def IsB (w : World) (x : Option Addr) (n c : Nat) (bs : Nat → Int) : Prop :=
  (x = none ∧ n = 0 ∧ c = 0) ∨ (∃ ad, x = some ad ∧ n = 0) ∨
  ∃ b o, x = some ⟨b, o, none⟩ ∧ 0 < n ∧ n ≤ c ∧ b < w.heap.size ∧ ∀ i, i < n → w.cell? ⟨b, o + i, none⟩ = some (.int .u8 (bs i)) ∧ 0 ≤ bs i ∧ bs i ≤ 255
theorem IsB.below {w w' : World} {x : Option Addr} {n c : Nat} {ks : Nat → Int} (h : IsB w x n c ks) (hb : Below w.heap.size w w') : IsB w' x n c ks := by
  rcases h with h | h | ⟨b, o, rfl, hn, hnc, hlt, hc⟩
  · exact .inl h
  · exact .inr (.inl h)
  · refine .inr (.inr ⟨b, o, rfl, hn, hnc, Nat.lt_of_lt_of_le hlt hb.size, fun i hi => ?_⟩)
    rw [hb.cell (p := ⟨b, _, none⟩) hlt]
    exact hc i hi

def auvRes (u : Option (Int × Nat)) : Array Value := match u with
  | some (v, w) => #[.int .u64 v, .int .i64 w, .bool true]
  | none => #[.int .u64 0, .int .i64 0, .bool false]

set_option maxHeartbeats 400000 in
theorem auv_zero (x : Option Addr) (c : Nat) (w : World) :
    Calls Yba.prog 9 #[.slice x 0 c] w fun e w' => e = .returned (.tuple #[.int .u64 0, .int .i64 0, .bool false]) ∧ w' = w := by
  go_enter Yba.func9, Yba.ntmps9
  go_wp2
  refine wp_loop_rounds 1 ?_
  rw [rounds_succ]
  go_wp2
  go_ret3
  exact ⟨rfl, rfl⟩

set_option maxHeartbeats 400000 in
theorem auv_pos (b o n c : Nat) (bs : Nat → Int) (w : World) (hn : n ≤ 1073741824) (hx : ∀ i, i < n → w.cell? ⟨b, o + i, none⟩ = some (.int .u8 (bs i)) ∧ 0 ≤ bs i ∧ bs i ≤ 255) :
    Calls Yba.prog 9 #[.slice (some ⟨b, o, none⟩) n c] w fun e w' => e = .returned (.tuple (auvRes (uv bs n))) ∧ w' = w := by
  generalize hU : uv bs n = U
  have HU : Hid (uv bs n = U) := hU
  clear hU
  go_enter Yba.func9, Yba.ntmps9
  go_wp2
  go_loop [5, 6] (fun v i => ∃ (k : Nat) (a : Int), k ≤ n ∧ k ≤ 10 ∧ i = .int .i64 k ∧ v = .int .u64 a ∧ Hid (uvGo bs n (10 - k) k a = U)) (fun _ i => n - (intOf i).toNat)
  case atStart => exact ⟨0, 0, Nat.zero_le _, Nat.zero_le _, rfl, rfl, HU⟩
  case round =>
    obtain ⟨k, a, hk, hk10, rfl, rfl, HV⟩ := hrel
    by_cases hlt : k < n
    · obtain ⟨hc, hq0, hq1⟩ := hx k hlt
      obtain ⟨q, hq⟩ : ∃ q, q = bs k := ⟨_, rfl⟩
      rw [← hq] at hc hq0 hq1
      have HQ : Hid (q = bs k) := hq
      clear hx hq
      by_cases h10 : k < 10
      · obtain ⟨f, hf⟩ : ∃ f, 10 - k = f + 1 := ⟨9 - k, by omega⟩
        have hf2 : 10 - (k + 1) = f := by omega
        have HF : Hid (10 - k = f + 1) := hf
        have HF2 : Hid (10 - (k + 1) = f) := hf2
        clear hf hf2
        by_cases h9 : k = 9 ∧ 1 < q
        · have hu : none = U := by rw [← HV.out, HF.out]; exact (uvGo_over h9.1 (by rw [← HQ.out]; exact h9.2)).symm
          have h9' : ((k : Int) == 9) = true := by simp; omega
          have hq1' := h9.2
          clear h9
          have HU2 : Hid (none = U) := hu
          clear hu
          go_wp2
          go_ret3
          exact ⟨by rw [← HU2.out]; rfl, rfl⟩
        · by_cases h128 : q < 128
          · have hu : some (stp a q k, k + 1) = U := by
              rw [← HV.out, HF.out, HQ.out]
              exact (uvGo_last hlt (by rw [← HQ.out]; exact h9) (by rw [← HQ.out]; exact h128)).symm
            have HU2 : Hid (some (stp a q k, k + 1) = U) := hu
            clear hu
            by_cases h9a : k = 9
            · have h9' : ((k : Int) == 9) = true := by simp; omega
              have hq2 : ¬ 1 < q := fun h => h9 ⟨h9a, h⟩
              clear h9 h9a
              go_wp2
              go_ret3
              exact ⟨by rw [← HU2.out]; rfl, rfl⟩
            · have h9' : ((k : Int) == 9) = false := by simp; omega
              clear h9 h9a
              go_wp2
              go_ret3
              exact ⟨by rw [← HU2.out]; rfl, rfl⟩
          · have h9a : k ≠ 9 := by
              intro h
              exact h9 ⟨h, by omega⟩
            have hu : uvGo bs n f (k + 1) (stp a q k) = U := by
              rw [← HV.out, HF.out, HQ.out]
              exact (uvGo_more hlt (by rw [← HQ.out]; exact h9) (by rw [← HQ.out]; exact h128)).symm
            have HU2 : Hid (uvGo bs n f (k + 1) (stp a q k) = U) := hu
            have h9' : ((k : Int) == 9) = false := by simp; omega
            clear h9 h9a hu
            go_wp2
            go_round
            case rel => exact ⟨k + 1, stp a q k, by omega, by omega, by go_num, rfl, by rw [HF2.out]; exact HU2⟩
            case measure => simp [intOf]; omega
      · have h10' : k = 10 := by omega
        subst h10'
        have hu : none = U := HV.out
        have HU2 : Hid (none = U) := hu
        clear hu
        go_wp2
        go_ret3
        exact ⟨by rw [← HU2.out]; rfl, rfl⟩
    · have hu : none = U := by rw [← HV.out]; exact (uvGo_end hlt).symm
      have HU2 : Hid (none = U) := hu
      clear hu hx
      go_wp2
      go_ret3
      exact ⟨by rw [← HU2.out]; rfl, rfl⟩
theorem auv_any (x : Option Addr) (n c : Nat) (bs : Nat → Int) (w : World) (hn : n ≤ 1073741824) (h : IsB w x n c bs) :
    Calls Yba.prog 9 #[.slice x n c] w fun e w' => e = .returned (.tuple (auvRes (uv bs n))) ∧ w' = w := by
  rcases h with ⟨rfl, rfl, rfl⟩ | ⟨ad, rfl, rfl⟩ | ⟨b, o, rfl, hpos, _, hlt, hc⟩
  · exact auv_zero none 0 w
  · exact auv_zero (some ad) c w
  · exact auv_pos b o n c bs w hn hc

/-! ### encoding/binary.Uvarint -/
theorem and127 (q : Int) (h0 : 0 ≤ q) (h1 : q < 128) : bits BinOp.and IntKind.u8 q 127 = q := by
  obtain ⟨n, rfl⟩ := Int.eq_ofNat_of_zero_le h0
  have hn : n < 128 := by omega
  have key : ∀ m : Fin 128, bits BinOp.and IntKind.u8 ((m.val : Nat) : Int) 127 = ((m.val : Nat) : Int) := by decide +kernel
  exact key ⟨n, hn⟩
theorem stp_last (a q : Int) (k : Nat) (h0 : 0 ≤ q) (h1 : q < 128) : bits BinOp.or IntKind.u64 a (IntKind.u64.wrap (q * 2 ^ (7 * k))) = stp a q k := by
  unfold stp
  rw [and127 q h0 h1]
  have : IntKind.u64.wrap q = q := by simp [IntKind.wrap, IntKind.signed, IntKind.bits]; omega
  rw [this]
set_option maxHeartbeats 400000 in
theorem uvarint_zero (x : Option Addr) (c : Nat) (w : World) :
    Calls Yba.prog 22 #[.slice x 0 c] w fun e w' => e = .returned (.tuple #[.int .u64 0, .int .i64 0]) ∧ w' = w := by
  go_enter Yba.func22, Yba.ntmps22
  go_wp2
  refine wp_loop_rounds 1 ?_
  rw [rounds_succ]
  go_wp2
  go_ret2
  exact ⟨rfl, rfl⟩
/-- what Uvarint answers -/
def UvOut (u : Option (Int × Nat)) (v m : Int) : Prop := (∃ w : Nat, u = some (v, w) ∧ m = w) ∨ (u = none ∧ m ≤ 0 ∧ -16 ≤ m)
set_option maxHeartbeats 400000 in
theorem uvarint_pos (b o n c : Nat) (bs : Nat → Int) (w : World) (_hn : n ≤ 1073741824) (hx : ∀ i, i < n → w.cell? ⟨b, o + i, none⟩ = some (.int .u8 (bs i)) ∧ 0 ≤ bs i ∧ bs i ≤ 255) :
    Calls Yba.prog 22 #[.slice (some ⟨b, o, none⟩) n c] w fun e w' => (∃ v m, e = .returned (.tuple #[.int .u64 v, .int .i64 m]) ∧ UvOut (uv bs n) v m) ∧ w' = w := by
  generalize hU : uv bs n = U
  have HU : Hid (uv bs n = U) := hU
  clear hU
  go_enter Yba.func22, Yba.ntmps22
  go_wp2
  go_loop [4, 5, 10] (fun v s i => ∃ (k : Nat) (a : Int), k ≤ n ∧ k ≤ 10 ∧ i = .int .i64 k ∧ s = .int .u64 (7 * k) ∧ v = .int .u64 a ∧ Hid (uvGo bs n (10 - k) k a = U)) (fun _ _ i => n - (intOf i).toNat)
  case atStart => exact ⟨0, 0, Nat.zero_le _, Nat.zero_le _, rfl, rfl, rfl, HU⟩
  case round =>
    obtain ⟨k, a, hk, hk10, rfl, rfl, rfl, HV⟩ := hrel
    by_cases hlt : k < n
    · obtain ⟨hc, hq0, hq1⟩ := hx k hlt
      obtain ⟨q, hq⟩ : ∃ q, q = bs k := ⟨_, rfl⟩
      rw [← hq] at hc hq0 hq1
      have HQ : Hid (q = bs k) := hq
      clear hx hq
      by_cases h10 : k < 10
      · have h10' : ((k : Int) == 10) = false := by simp; omega
        obtain ⟨f, hf⟩ : ∃ f, 10 - k = f + 1 := ⟨9 - k, by omega⟩
        have hf2 : 10 - (k + 1) = f := by omega
        have HF : Hid (10 - k = f + 1) := hf
        have HF2 : Hid (10 - (k + 1) = f) := hf2
        clear hf hf2
        by_cases h128 : q < 128
        · by_cases h9 : k = 9 ∧ 1 < q
          · have hu : none = U := by rw [← HV.out, HF.out]; exact (uvGo_over h9.1 (by rw [← HQ.out]; exact h9.2)).symm
            have h9' : ((k : Int) == 9) = true := by simp; omega
            have hq1' := h9.2
            have HU2 : Hid (none = U) := hu
            clear hu h9
            go_wp2
            go_ret2
            exact ⟨⟨_, _, rfl, .inr ⟨HU2.out.symm, by omega, by omega⟩⟩, rfl⟩
          · have hu : some (stp a q k, k + 1) = U := by
              rw [← HV.out, HF.out, HQ.out]
              exact (uvGo_last hlt (by rw [← HQ.out]; exact h9) (by rw [← HQ.out]; exact h128)).symm
            have HU2 : Hid (some (stp a q k, k + 1) = U) := hu
            clear hu
            by_cases h9a : k = 9
            · have h9' : ((k : Int) == 9) = true := by simp; omega
              have hq2 : ¬ 1 < q := fun h => h9 ⟨h9a, h⟩
              clear h9 h9a
              go_wp2
              go_ret2
              exact ⟨⟨_, _, rfl, .inl ⟨k + 1, by rw [stp_last a q k hq0 h128]; exact HU2.out.symm, by simp⟩⟩, rfl⟩
            · have h9' : ((k : Int) == 9) = false := by simp; omega
              clear h9 h9a
              go_wp2
              go_ret2
              exact ⟨⟨_, _, rfl, .inl ⟨k + 1, by rw [stp_last a q k hq0 h128]; exact HU2.out.symm, by simp⟩⟩, rfl⟩
        · have hu : uvGo bs n f (k + 1) (stp a q k) = U := by
            by_cases h9a : k = 9
            · have hf0 : f = 0 := by have := HF2.out; omega
              rw [hf0, ← HV.out, HF.out]
              exact (uvGo_over h9a (by rw [← HQ.out]; omega)).symm
            · rw [← HV.out, HF.out, HQ.out]
              exact (uvGo_more hlt (by rw [← HQ.out]; exact fun h => h9a h.1) (by rw [← HQ.out]; exact h128)).symm
          have HU2 : Hid (uvGo bs n f (k + 1) (stp a q k) = U) := hu
          clear hu
          go_wp2
          go_round
          case rel => exact ⟨k + 1, stp a q k, by omega, by omega, by go_num, by go_num, rfl, by rw [HF2.out]; exact HU2⟩
          case measure => simp [intOf]; omega
      · have h10' : k = 10 := by omega
        have h10b : ((k : Int) == 10) = true := by simp; omega
        have hu : none = U := by rw [← HV.out, h10']; rfl
        have HU2 : Hid (none = U) := hu
        clear hu h10'
        go_wp2
        go_ret2
        exact ⟨⟨_, _, rfl, .inr ⟨HU2.out.symm, by omega, by omega⟩⟩, rfl⟩
    · have hu : none = U := by rw [← HV.out]; exact (uvGo_end hlt).symm
      have HU2 : Hid (none = U) := hu
      clear hu hx
      go_wp2
      go_ret2
      exact ⟨⟨_, _, rfl, .inr ⟨HU2.out.symm, by omega, by omega⟩⟩, rfl⟩
theorem uvarint_any (x : Option Addr) (n c : Nat) (bs : Nat → Int) (w : World) (hn : n ≤ 1073741824) (h : IsB w x n c bs) :
    Calls Yba.prog 22 #[.slice x n c] w fun e w' => (∃ v m, e = .returned (.tuple #[.int .u64 v, .int .i64 m]) ∧ UvOut (uv bs n) v m) ∧ w' = w := by
  rcases h with ⟨rfl, rfl, rfl⟩ | ⟨ad, rfl, rfl⟩ | ⟨b, o, rfl, hpos, _, hlt, hc⟩
  · refine (uvarint_zero none 0 w).mono ?_
    rintro e w' ⟨rfl, rfl⟩
    exact ⟨⟨0, 0, rfl, .inr ⟨rfl, by omega, by omega⟩⟩, rfl⟩
  · refine (uvarint_zero (some ad) c w).mono ?_
    rintro e w' ⟨rfl, rfl⟩
    exact ⟨⟨0, 0, rfl, .inr ⟨rfl, by omega, by omega⟩⟩, rfl⟩
  · exact uvarint_pos b o n c bs w hn hc
end Go.Proofs.Ybulkdxow
