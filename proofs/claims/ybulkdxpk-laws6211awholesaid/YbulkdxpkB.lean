import Derived.Test.YbulkdxpkA
namespace Go.Proofs.Ybulkdxpk
open Go.RowKit
set_option linter.unusedVariables false

def FT.fb : {d : Nat} → FT d → Nat
  | 0, _ => 0
  | _ + 1, none => 0
  | _ + 1, some x => 16 * (x.r.n + x.g.n + x.v.n) + sumTo x.n fun i => 136 + (x.kids i).fb
theorem FT.fb_mk {d : Nat} {t a : ByteArray} {r g v : SL} {rows : Int} {nl : Bool} {n : Nat} {kids : Nat → FT d} : (FT.mk t a r g v rows nl n kids).fb = 16 * (r.n + g.n + v.n) + sumTo n fun i => 136 + (kids i).fb := rfl
theorem FT.fb_nought : ∀ {d : Nat}, (FT.nought : FT d).fb = 0
  | 0 => rfl
  | _ + 1 => rfl
theorem sumTo_lin (f g h : Nat → Nat) : ∀ k, (∀ i, i < k → f i = 16 * g i + 136 * h i) → sumTo k f = 16 * sumTo k g + 136 * sumTo k h
  | 0, _ => rfl
  | k + 1, e => by
    have e1 := sumTo_lin f g h k (fun i hi => e i (by omega))
    have e2 := e k (by omega)
    simp only [sumTo]
    omega
theorem FT.fb_eq {d : Nat} (T : FT d) : T.fb + 136 = 16 * T.names + 136 * T.nodes := by
  induction d, T using FT.ind with
  | nought d => rw [FT.fb_nought, FT.names_nought, FT.nodes_nought]
  | mk d t a r g v rows nl n kids ih =>
    simp only [FT.fb_mk, FT.names_mk, FT.nodes_mk]
    rw [sumTo_lin (fun i => 136 + (kids i).fb) (fun i => (kids i).names) (fun i => (kids i).nodes) n (fun i _ => by have := ih i; show 136 + (kids i).fb = _; omega)]
    omega
theorem FT.kid_names {t a : ByteArray} {r g v : SL} {rows : Int} {nl : Bool} {n : Nat} {d : Nat} {kids : Nat → FT d} {i : Nat} (h : i < n) : (kids i).names ≤ (FT.mk t a r g v rows nl n kids).names := by
  have := le_sumTo (fun i => (kids i).names) n i h
  simp only [FT.names_mk]
  omega
theorem FT.kid_nodes {t a : ByteArray} {r g v : SL} {rows : Int} {nl : Bool} {n : Nat} {d : Nat} {kids : Nat → FT d} {i : Nat} (h : i < n) : (kids i).nodes ≤ (FT.mk t a r g v rows nl n kids).nodes := by
  have := le_sumTo (fun i => (kids i).nodes) n i h
  simp only [FT.nodes_mk]
  omega
theorem FT.n_nodes {t a : ByteArray} {r g v : SL} {rows : Int} {nl : Bool} {n : Nat} {d : Nat} {kids : Nat → FT d} : n + 1 ≤ (FT.mk t a r g v rows nl n kids).nodes := by
  have := ge_sumTo (fun i => (kids i).nodes) (fun i => (kids i).nodes_pos) n
  simp only [FT.nodes_mk]
  omega
theorem At.drew {w : World} {b o : Nat} {u : Value} (h : At w b o u) (k : Nat) : At (w.drewN k) b o u := h.same (fun o => by simp)
theorem IsF.drew {lo : Nat} {w : World} {d : Nat} {T : FT d} {u : Value} (h : IsF lo w T u) (k : Nat) : IsF lo (w.drewN k) T u := IsF.keep (by simp) (fun b o _ _ => by simp) T u h

set_option maxHeartbeats 800000 in
theorem fb_any : ∀ {d : Nat} (T : FT d) (lo b o : Nat) (u : Value) (w : World), At w b o u → IsF lo w T u → T.names ≤ 1048576 → T.nodes ≤ 65536 →
    Calls Yba.prog 5 #[.pointer (some ⟨b, o, none⟩)] w fun e w' => e = .returned (.int .i64 (T.fb : Int)) ∧ ∃ k, w' = w.drewN k := by
  intro d T
  induction d, T using FT.ind with
  | nought d => intro lo b o u w hA hF; simp only [IsF_nought] at hF
  | mk d t a r g v rows nl n kids ih =>
    intro lo b o u w hA hF hnm hnd
    have hfb := (FT.mk t a r g v rows nl n kids).fb_eq
    have hn := FT.n_nodes (t := t) (a := a) (r := r) (g := g) (v := v) (rows := rows) (nl := nl) (n := n) (kids := kids)
    have hrn : r.n + g.n + v.n ≤ 1048576 := by simp only [FT.names_mk] at hnm; omega
    have hkm : ∀ i, i < n → (kids i).names ≤ 1048576 := fun i hi => Nat.le_trans (FT.kid_names hi) hnm
    have hkd : ∀ i, i < n → (kids i).nodes ≤ 65536 := fun i hi => Nat.le_trans (FT.kid_nodes hi) hnd
    have hfbv : (FT.mk t a r g v rows nl n kids).fb ≤ 100000000 := by omega
    have hdef : (FT.mk t a r g v rows nl n kids).fb = 16 * (r.n + g.n + v.n) + sumTo n fun i => 136 + (kids i).fb := rfl
    rw [hdef] at hfbv ⊢
    have hn' : n ≤ 65536 := by omega
    simp only [IsF_mk] at hF
    obtain ⟨xr, cr, xg, cg, xv, cv, jx, jc, rfl, _, _, _, _, hJ⟩ := hF
    obtain ⟨u0, u1, u2, u3, u4, u5, u6, he, c0, c1, c2, c3, c4, c5, c6⟩ := hA
    simp at he
    obtain ⟨rfl, rfl, rfl, rfl, rfl, rfl, rfl⟩ := he
    have HM : Hid (∀ i, i < n → (kids i).names ≤ 1048576) := hkm
    have HD : Hid (∀ i, i < n → (kids i).nodes ≤ 65536) := hkd
    have HS : Hid (∀ k, k ≤ n → sumTo k (fun i => 136 + (kids i).fb) ≤ 100000000) := fun k hk => by
      have := sumTo_mono (fun i => 136 + (kids i).fb) hk; omega
    have HSS : Hid (∀ k, sumTo (k + 1) (fun i => 136 + (kids i).fb) = sumTo k (fun i => 136 + (kids i).fb) + (136 + (kids k).fb)) := fun k => rfl
    have HS0 : Hid (sumTo 0 (fun i => 136 + (kids i).fb) = 0) := rfl
    have HIH := ih
    clear ih hkm hkd hdef hfb hnm hnd hn hfbv
    generalize (fun i => 136 + (kids i).fb) = f at *
    generalize r.n = A at *
    generalize g.n = G at *
    generalize v.n = V at *
    have HIH' : Hid (∀ i (lo b o : Nat) (u : Value) (w : World), At w b o u → IsF lo w (kids i) u → (kids i).names ≤ 1048576 → (kids i).nodes ≤ 65536 → Calls Yba.prog 5 #[.pointer (some ⟨b, o, none⟩)] w fun e w' => e = .returned (.int .i64 ((kids i).fb : Int)) ∧ ∃ k, w' = w.drewN k) := HIH
    have HJ : Hid (jx = none ∧ n = 0 ∧ jc = 0 ∧ nl = true ∨ (∃ ad, jx = some ad ∧ n = 0 ∧ nl = false) ∨ ∃ b o, jx = some ⟨b, o, none⟩ ∧ 0 < n ∧ nl = false ∧ lo ≤ b ∧ b < w.heap.size ∧ ∀ i, i < n → ∃ u, At w b (o + i * 7) u ∧ IsF lo w (kids i) u) := hJ
    clear hJ HIH
    go_enter Yba.func5, Yba.ntmps5
    go_wp2_with fail
    go_quiet (fail)
    go_wp2_with fail
    go_loopw [3, 28] (fun s i wr => ∃ k m : Nat, k ≤ n ∧ i = .int .i64 k ∧ s = .int .i64 ((16 * (A + G + V) + sumTo k f : Nat) : Int) ∧ wr = w.drewN m) (fun _ i _ => n - (intOf i).toNat)
    case atStart => exact ⟨0, _, Nat.zero_le _, rfl, by rw [HS0.out]; go_num, rfl⟩
    case round =>
      obtain ⟨k, m, hk, rfl, rfl, rfl⟩ := hrel
      by_cases hkn : k < n
      · rcases HJ.out with ⟨_, h, _⟩ | ⟨_, _, h, _⟩ | ⟨jb, jo, rfl, hpos, hnl, hlo, hlt, hx⟩
        · omega
        · omega
        · have hkn' : (k : Int) < (n : Int) := by omega
          obtain ⟨u, hAu, hFu⟩ := hx k hkn
          have HA : Hid (At w jb (jo + k * 7) u) := hAu
          have HF : Hid (IsF lo w (kids k) u) := hFu
          have hb := HS.out (k + 1) (by omega)
          rw [HSS.out k] at hb
          clear hx hAu hFu
          go_wp2_with fail
          refine (HIH'.out k lo jb (jo + k * 7) u _ (HA.out.drew _) (HF.out.drew _) (HM.out k hkn) (HD.out k hkn)).mono ?_
          rintro e w' ⟨rfl, m', rfl⟩
          generalize hfk : (kids k).fb = fk at *
          generalize hsk : sumTo k f = sk at *
          go_wp2_with fail
          go_roundw
          case rel => exact ⟨k + 1, _, by omega, by go_num, by rw [HSS.out k, hfk, hsk]; go_num, rfl⟩
          case measure => simp [intOf]; omega
      · have hkn2 : k = n := by omega
        subst hkn2
        go_wp2_with fail
        go_ret
        exact ⟨rfl, m, rfl⟩
end Go.Proofs.Ybulkdxpk
