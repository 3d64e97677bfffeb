import Derived.Test.YbulkdxowRows
import Derived.WalkKit
import Derived.WalkSpells
import Derived.WalkLawsBesides
import Derived.Deep.QuietTactic
import Derived.BigQuiet
import Derived.Deep.Cut
import Derived.Deep.CutRange
import Derived.OpenShut
namespace Go.Proofs.Ybulkdxow.B
open Go.RowKit
set_option linter.unusedVariables false

def bitB (a : Int) (i : Nat) : Bool := bits BinOp.and IntKind.u8 (a / 2 ^ i) 1 == 1
def nameB (z : Int) : ByteArray := if z % 4 = 0 then ⟨#[97]⟩ else if z % 4 = 1 then ⟨#[98]⟩ else if z % 4 = 2 then ⟨#[99]⟩ else ⟨#[100]⟩
/-- the verdict of one leaf -/
def leafV (app rej : Int) (l : Int × Bool) : Int :=
  if bitB app (l.1 % 4).toNat = false ∧ bitB rej (l.1 % 4).toNat = false then 0
  else if (bitB app (l.1 % 4).toNat != l.2) = true then 1 else 2

theorem four (z : Int) : z % 4 = 0 ∨ z % 4 = 1 ∨ z % 4 = 2 ∨ z % 4 = 3 := by omega

set_option maxHeartbeats 400000 in
theorem name_any (z : Int) (w : World) (_h0 : 0 ≤ z) (_h1 : z ≤ 255) :
    Calls Yba.prog 19 #[.int .u8 z] w fun e w' => e = .returned (.string (nameB z)) ∧ w' = w := by
  rcases four z with h | h | h | h
  · have e : nameB z = ⟨#[97]⟩ := by simp [nameB, h]
    rw [e]; clear e
    go_enter Yba.func19, Yba.ntmps19
    go_wp2
    go_ret
    exact ⟨rfl, rfl⟩
  · have e : nameB z = ⟨#[98]⟩ := by simp [nameB, h]
    rw [e]; clear e
    go_enter Yba.func19, Yba.ntmps19
    go_wp2
    go_ret
    exact ⟨rfl, rfl⟩
  · have e : nameB z = ⟨#[99]⟩ := by simp [nameB, h]
    rw [e]; clear e
    go_enter Yba.func19, Yba.ntmps19
    go_wp2
    go_ret
    exact ⟨rfl, rfl⟩
  · have e : nameB z = ⟨#[100]⟩ := by simp [nameB, h]
    rw [e]; clear e
    go_enter Yba.func19, Yba.ntmps19
    go_wp2
    go_ret
    exact ⟨rfl, rfl⟩

set_option maxHeartbeats 400000 in
theorem bit_name (z : Int) (w : World) :
    Calls Yba.prog 13 #[.string (nameB z)] w fun e w' => e = .returned (.int .u64 (z % 4)) ∧ w' = w := by
  rcases four z with h | h | h | h
  · have e : nameB z = ⟨#[97]⟩ := by simp [nameB, h]
    rw [e, h]; clear e h
    go_enter Yba.func13, Yba.ntmps13
    go_wp2
    go_ret
    exact ⟨rfl, rfl⟩
  · have e : nameB z = ⟨#[98]⟩ := by simp [nameB, h]
    rw [e, h]; clear e h
    go_enter Yba.func13, Yba.ntmps13
    go_wp2
    go_ret
    exact ⟨rfl, rfl⟩
  · have e : nameB z = ⟨#[99]⟩ := by simp [nameB, h]
    rw [e, h]; clear e h
    go_enter Yba.func13, Yba.ntmps13
    go_wp2
    go_ret
    exact ⟨rfl, rfl⟩
  · have e : nameB z = ⟨#[100]⟩ := by simp [nameB, h]
    rw [e, h]; clear e h
    go_enter Yba.func13, Yba.ntmps13
    go_wp2
    go_ret
    exact ⟨rfl, rfl⟩

set_option maxHeartbeats 400000 in
theorem appr_any (z a : Int) (b : Nat) (w : World) (h0 : 0 ≤ z) (ha0 : 0 ≤ a) (ha1 : a ≤ 255) (hc : w.cell? ⟨b, 0, none⟩ = some (.int .u8 a)) :
    Calls Yba.prog 12 #[.string (nameB z), .pointer (some ⟨b, 0, none⟩)] w fun e w' => e = .returned (.bool (bitB a (z % 4).toNat)) ∧ w' = w := by
  obtain ⟨i, hi⟩ : ∃ i : Nat, z % 4 = i := ⟨(z % 4).toNat, by omega⟩
  have hi4 : i < 4 := by omega
  have hit : (z % 4).toNat = i := by omega
  rw [hit]
  have HI : Hid (z % 4 = i) := hi
  clear hi hit
  go_enter Yba.func12, Yba.ntmps12
  go_wp2_with fail
  refine (bit_name z _).mono ?_
  rintro e w' ⟨rfl, rfl⟩
  rw [HI.out]
  go_wp2_with fail
  go_ret
  exact ⟨rfl, rfl⟩
set_option maxHeartbeats 400000 in
theorem rejr_any (z a : Int) (b : Nat) (w : World) (h0 : 0 ≤ z) (ha0 : 0 ≤ a) (ha1 : a ≤ 255) (hc : w.cell? ⟨b, 0, none⟩ = some (.int .u8 a)) :
    Calls Yba.prog 14 #[.string (nameB z), .pointer (some ⟨b, 0, none⟩)] w fun e w' => e = .returned (.bool (bitB a (z % 4).toNat)) ∧ w' = w := by
  obtain ⟨i, hi⟩ : ∃ i : Nat, z % 4 = i := ⟨(z % 4).toNat, by omega⟩
  have hi4 : i < 4 := by omega
  have hit : (z % 4).toNat = i := by omega
  rw [hit]
  have HI : Hid (z % 4 = i) := hi
  clear hi hit
  go_enter Yba.func14, Yba.ntmps14
  go_wp2_with fail
  refine (bit_name z _).mono ?_
  rintro e w' ⟨rfl, rfl⟩
  rw [HI.out]
  go_wp2_with fail
  go_ret
  exact ⟨rfl, rfl⟩

theorem leafV_pend {app rej : Int} {l : Int × Bool} (ha : bitB app (l.1 % 4).toNat = false) (hr : bitB rej (l.1 % 4).toNat = false) : leafV app rej l = 0 := by simp [leafV, ha, hr]
theorem leafV_yes {app rej : Int} {l : Int × Bool} (ha : bitB app (l.1 % 4).toNat = true) : leafV app rej l = if l.2 = true then 2 else 1 := by cases h : l.2 <;> simp [leafV, ha, h]
theorem leafV_no {app rej : Int} {l : Int × Bool} (ha : bitB app (l.1 % 4).toNat = false) (hr : bitB rej (l.1 % 4).toNat = true) : leafV app rej l = if l.2 = true then 1 else 2 := by cases h : l.2 <;> simp [leafV, ha, hr, h]
theorem leafV_bd (app rej : Int) (l : Int × Bool) : leafV app rej l = 0 ∨ leafV app rej l = 1 ∨ leafV app rej l = 2 := by
  unfold leafV
  split
  · exact .inl rfl
  · split
    · exact .inr (.inl rfl)
    · exact .inr (.inr rfl)

/-! ### zzs6210bleaf -/
set_option maxHeartbeats 800000 in
theorem leaf_any (z app rej : Int) (neg : Bool) (w : World) (h0 : 0 ≤ z) (h1 : z ≤ 255) (ha0 : 0 ≤ app) (ha1 : app ≤ 255) (hr0 : 0 ≤ rej) (hr1 : rej ≤ 255) :
    Calls Yba.prog 20 #[.agg #[.int .u8 z, .bool neg], .int .u8 app, .int .u8 rej] w fun e w' => e = .returned (.int .i64 (leafV app rej (z, neg))) ∧ Below w.heap.size w w' := by
  obtain ⟨i, hi⟩ : ∃ i : Nat, z % 4 = i := ⟨(z % 4).toNat, by omega⟩
  have hi4 : i < 4 := by omega
  have hit : (z % 4).toNat = i := by omega
  cases hA : bitB app i with
  | true =>
    have hl : leafV app rej (z, neg) = if neg = true then 2 else 1 := leafV_yes (l := (z, neg)) (by show bitB app (z % 4).toNat = true; rw [hit]; exact hA)
    rw [hl]
    have hA' : (bits BinOp.and IntKind.u8 (app / 2 ^ i) 1 == 1) = true := hA
    clear hA hl hit
    cases neg with
    | true =>
      go_enter Yba.func20, Yba.ntmps20
      go_wp2
      go_ret
      exact ⟨rfl, (Below.refl _ _).alloc (Nat.le_refl _) _⟩
    | false =>
      go_enter Yba.func20, Yba.ntmps20
      go_wp2
      go_ret
      exact ⟨rfl, (Below.refl _ _).alloc (Nat.le_refl _) _⟩
  | false =>
    have hA' : (bits BinOp.and IntKind.u8 (app / 2 ^ i) 1 == 1) = false := hA
    cases hR : bitB rej i with
    | true =>
      have hl : leafV app rej (z, neg) = if neg = true then 1 else 2 := leafV_no (l := (z, neg)) (by show bitB app (z % 4).toNat = false; rw [hit]; exact hA) (by show bitB rej (z % 4).toNat = true; rw [hit]; exact hR)
      rw [hl]
      have hR' : (bits BinOp.and IntKind.u8 (rej / 2 ^ i) 1 == 1) = true := hR
      clear hA hR hl hit
      cases neg with
      | true =>
        go_enter Yba.func20, Yba.ntmps20
        go_wp2
        go_ret
        exact ⟨rfl, (Below.refl _ _).alloc (Nat.le_refl _) _⟩
      | false =>
        go_enter Yba.func20, Yba.ntmps20
        go_wp2
        go_ret
        exact ⟨rfl, (Below.refl _ _).alloc (Nat.le_refl _) _⟩
    | false =>
      have hl : leafV app rej (z, neg) = 0 := leafV_pend (l := (z, neg)) (by show bitB app (z % 4).toNat = false; rw [hit]; exact hA) (by show bitB rej (z % 4).toNat = false; rw [hit]; exact hR)
      rw [hl]
      have hR' : (bits BinOp.and IntKind.u8 (rej / 2 ^ i) 1 == 1) = false := hR
      clear hA hR hl hit
      go_enter Yba.func20, Yba.ntmps20
      go_wp2
      go_ret
      exact ⟨rfl, (Below.refl _ _).alloc (Nat.le_refl _) _⟩

/-! ### zzs6210bsingle -/
set_option maxHeartbeats 400000 in
theorem single_zero (g : Bool) (K : Int) (x : Option Addr) (c : Nat) (w : World) :
    Calls Yba.prog 18 #[.agg #[.bool g, .int .u8 K, .slice x 0 c]] w fun e w' => e = .returned (.agg #[.int .u8 K, .bool false]) ∧ Below w.heap.size w w' := by
  go_enter Yba.func18, Yba.ntmps18
  go_wp2
  exact bodyPost_ret (v := .agg #[.int .u8 K, .bool false]) (by simp [results, Yba.results18, go_sem]) rfl ⟨rfl, ((Below.refl _ _).alloc (Nat.le_refl _) _).alloc (by simp) _⟩
set_option maxHeartbeats 400000 in
theorem single_pos (g : Bool) (K z : Int) (neg : Bool) (b o n c : Nat) (w : World) (hn : 0 < n) (hb : b < w.heap.size) (h0 : w.cell? ⟨b, o, none⟩ = some (.int .u8 z)) (h1 : w.cell? ⟨b, o + 1, none⟩ = some (.bool neg)) :
    Calls Yba.prog 18 #[.agg #[.bool g, .int .u8 K, .slice (some ⟨b, o, none⟩) n c]] w fun e w' => e = .returned (.agg #[.int .u8 z, .bool neg]) ∧ Below w.heap.size w w' := by
  have hn' : (0 : Int) < (n : Int) := by omega
  have hb2 : b < w.heap.size + 1 := by omega
  go_enter Yba.func18, Yba.ntmps18
  go_wp2
  exact bodyPost_ret (v := .agg #[.int .u8 z, .bool neg]) (by simp [results, Yba.results18, go_sem]) rfl ⟨rfl, ((Below.refl _ _).alloc (Nat.le_refl _) _).alloc (by simp) _⟩

/-! ### Decide at a leaf -/
def LeafP (w : World) (b : Nat) (l : Int × Bool) : Prop := w.heap[b]? = some (.cells #[.string (nameB l.1), .bool l.2, .int .i64 0, .slice none 0 0] 65 (0, 0))
theorem cells4 {w : World} {b : Nat} {x y z u : Value} {t : TypeId} (h : w.heap[b]? = some (.cells #[x, y, z, u] t (0, 0))) :
    w.cell? ⟨b, 0, none⟩ = some x ∧ w.cell? ⟨b, 1, none⟩ = some y ∧ w.cell? ⟨b, 2, none⟩ = some z ∧ w.cell? ⟨b, 3, none⟩ = some u ∧ b < w.heap.size := by
  refine ⟨?_, ?_, ?_, ?_, (Array.getElem?_eq_some_iff.1 h).1⟩ <;> simp [World.cell?, h]
def fA (b : Nat) : Value := .func (.func 12) #[] #[.pointer (some ⟨b, 0, none⟩)]
def fR (b : Nat) : Value := .func (.func 14) #[] #[.pointer (some ⟨b, 0, none⟩)]
set_option maxHeartbeats 800000 in
theorem decide_leaf (b ba br : Nat) (l : Int × Bool) (app rej : Int) (w : World) (h0 : 0 ≤ l.1) (ha0 : 0 ≤ app) (ha1 : app ≤ 255) (hr0 : 0 ≤ rej) (hr1 : rej ≤ 255) (hL : LeafP w b l) (hA : w.cell? ⟨ba, 0, none⟩ = some (.int .u8 app)) (hR : w.cell? ⟨br, 0, none⟩ = some (.int .u8 rej)) :
    Calls Yba.prog 21 #[.pointer (some ⟨b, 0, none⟩), .func (.func 12) #[] #[.pointer (some ⟨ba, 0, none⟩)], .func (.func 14) #[] #[.pointer (some ⟨br, 0, none⟩)]] w fun e w' => e = .returned (.int .i64 (leafV app rej l)) ∧ w' = w := by
  obtain ⟨z, neg⟩ := l
  obtain ⟨c0, c1, c2, c3, hlt⟩ := cells4 hL
  clear hL
  cases hA2 : bitB app (z % 4).toNat with
  | true =>
    have hl : leafV app rej (z, neg) = if neg = true then 2 else 1 := leafV_yes (l := (z, neg)) hA2
    rw [hl]
    have HA2 : Hid (bitB app (z % 4).toNat = true) := hA2
    clear hl hA2
    cases neg with
    | true =>
      go_enter Yba.func21, Yba.ntmps21
      go_wp2_with fail
      refine (appr_any z app ba _ h0 ha0 ha1 hA).mono ?_
      rintro e w' ⟨rfl, rfl⟩
      rw [HA2.out]
      go_wp2_with fail
      go_ret
      exact ⟨rfl, rfl⟩
    | false =>
      go_enter Yba.func21, Yba.ntmps21
      go_wp2_with fail
      refine (appr_any z app ba _ h0 ha0 ha1 hA).mono ?_
      rintro e w' ⟨rfl, rfl⟩
      rw [HA2.out]
      go_wp2_with fail
      go_ret
      exact ⟨rfl, rfl⟩
  | false =>
    have HA2 : Hid (bitB app (z % 4).toNat = false) := hA2
    cases hR2 : bitB rej (z % 4).toNat with
    | true =>
      have hl : leafV app rej (z, neg) = if neg = true then 1 else 2 := leafV_no (l := (z, neg)) hA2 hR2
      rw [hl]
      have HR2 : Hid (bitB rej (z % 4).toNat = true) := hR2
      clear hl hA2 hR2
      cases neg with
      | true =>
        go_enter Yba.func21, Yba.ntmps21
        go_wp2_with fail
        refine (appr_any z app ba _ h0 ha0 ha1 hA).mono ?_
        rintro e w' ⟨rfl, rfl⟩
        rw [HA2.out]
        go_wp2_with fail
        refine (rejr_any z rej br _ h0 hr0 hr1 hR).mono ?_
        rintro e w' ⟨rfl, rfl⟩
        rw [HR2.out]
        go_wp2_with fail
        go_ret
        exact ⟨rfl, rfl⟩
      | false =>
        go_enter Yba.func21, Yba.ntmps21
        go_wp2_with fail
        refine (appr_any z app ba _ h0 ha0 ha1 hA).mono ?_
        rintro e w' ⟨rfl, rfl⟩
        rw [HA2.out]
        go_wp2_with fail
        refine (rejr_any z rej br _ h0 hr0 hr1 hR).mono ?_
        rintro e w' ⟨rfl, rfl⟩
        rw [HR2.out]
        go_wp2_with fail
        go_ret
        exact ⟨rfl, rfl⟩
    | false =>
      have hl : leafV app rej (z, neg) = 0 := leafV_pend (l := (z, neg)) hA2 hR2
      rw [hl]
      have HR2 : Hid (bitB rej (z % 4).toNat = false) := hR2
      clear hl hA2 hR2
      cases neg with
      | true =>
        go_enter Yba.func21, Yba.ntmps21
        go_wp2_with fail
        refine (appr_any z app ba _ h0 ha0 ha1 hA).mono ?_
        rintro e w' ⟨rfl, rfl⟩
        rw [HA2.out]
        go_wp2_with fail
        refine (rejr_any z rej br _ h0 hr0 hr1 hR).mono ?_
        rintro e w' ⟨rfl, rfl⟩
        rw [HR2.out]
        go_wp2_with fail
        go_ret
        exact ⟨rfl, rfl⟩
      | false =>
        go_enter Yba.func21, Yba.ntmps21
        go_wp2_with fail
        refine (appr_any z app ba _ h0 ha0 ha1 hA).mono ?_
        rintro e w' ⟨rfl, rfl⟩
        rw [HA2.out]
        go_wp2_with fail
        refine (rejr_any z rej br _ h0 hr0 hr1 hR).mono ?_
        rintro e w' ⟨rfl, rfl⟩
        rw [HR2.out]
        go_wp2_with fail
        go_ret
        exact ⟨rfl, rfl⟩
end Go.Proofs.Ybulkdxow.B
