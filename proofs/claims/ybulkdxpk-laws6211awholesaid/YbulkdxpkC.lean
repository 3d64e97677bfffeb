import Derived.Test.YbulkdxpkB
import Derived.Deep.RegionWith
import Derived.Deep.RegionHeld3
namespace Go.Proofs.Ybulkdxpk
open Go.RowKit
set_option linter.unusedVariables false

theorem At.lt {w : World} {b o : Nat} {u : Value} (h : At w b o u) : b < w.heap.size := by
  obtain ⟨u0, _, _, _, _, _, _, _, h0, _⟩ := h
  exact World.block_lt_of_cell? w _ h0

/-- the children of a node -/
def Kids (lo : Nat) (w : World) (jx : Option Addr) (n : Nat) (nl : Bool) {d : Nat} (kids : Nat → FT d) : Prop :=
  (jx = none ∧ n = 0 ∧ nl = true) ∨ (∃ ad, jx = some ad ∧ n = 0 ∧ nl = false) ∨ ∃ b o, jx = some ⟨b, o, none⟩ ∧ 0 < n ∧ nl = false ∧ lo ≤ b ∧ b < w.heap.size ∧ ∀ i, i < n → ∃ u, At w b (o + i * 7) u ∧ IsF lo w (kids i) u
theorem Kids.isNone {lo : Nat} {w : World} {jx : Option Addr} {n : Nat} {nl : Bool} {d : Nat} {kids : Nat → FT d} (h : Kids lo w jx n nl kids) : jx.isNone = nl := by
  rcases h with ⟨rfl, _, h⟩ | ⟨ad, rfl, _, h⟩ | ⟨b, o, rfl, _, h, _⟩ <;> simp [h]
theorem Kids.drew {lo : Nat} {w : World} {jx : Option Addr} {n : Nat} {nl : Bool} {d : Nat} {kids : Nat → FT d} (h : Kids lo w jx n nl kids) (m : Nat) : Kids lo (w.drewN m) jx n nl kids := by
  rcases h with h | h | ⟨b, o, rfl, hn, hnl, hlo, hlt, hx⟩
  · exact .inl h
  · exact .inr (.inl h)
  · refine .inr (.inr ⟨b, o, rfl, hn, hnl, hlo, by simpa using hlt, fun i hi => ?_⟩)
    obtain ⟨u, hA, hF⟩ := hx i hi
    exact ⟨u, hA.drew m, hF.drew m⟩
theorem IsS.drew {lo : Nat} {w : World} {x : Option Addr} {c : Nat} {q : SL} (h : IsS lo w x c q) (m : Nat) : IsS lo (w.drewN m) x c q := h.keep (by simp) (fun b o _ _ => by simp)
/-- a node, taken apart -/
theorem open_at {lo : Nat} {w : World} {b o : Nat} {u : Value} {t a : ByteArray} {r g v : SL} {rows : Int} {nl : Bool} {n : Nat} {d : Nat} {kids : Nat → FT d} (hA : At w b o u) (hF : IsF lo w (.mk t a r g v rows nl n kids) u) :
    ∃ xr cr xg cg xv cv jx jc, w.cell? ⟨b, o, none⟩ = some (.string t) ∧ w.cell? ⟨b, o + 1, none⟩ = some (.string a) ∧ w.cell? ⟨b, o + 2, none⟩ = some (.slice xr r.n cr) ∧ w.cell? ⟨b, o + 3, none⟩ = some (.slice xg g.n cg) ∧ w.cell? ⟨b, o + 4, none⟩ = some (.slice xv v.n cv) ∧ w.cell? ⟨b, o + 5, none⟩ = some (.int .i64 rows) ∧ w.cell? ⟨b, o + 6, none⟩ = some (.slice jx n jc) ∧
      IsS lo w xr cr r ∧ IsS lo w xg cg g ∧ IsS lo w xv cv v ∧ (r.n ≤ 8796093022208 ∧ g.n ≤ 8796093022208 ∧ v.n ≤ 8796093022208 ∧ n ≤ 8796093022208) ∧ Kids lo w jx n nl kids := by
  simp only [IsF_mk] at hF
  obtain ⟨xr, cr, xg, cg, xv, cv, jx, jc, rfl, h1, h2, h3, h4, hJ⟩ := hF
  obtain ⟨u0, u1, u2, u3, u4, u5, u6, he, c0, c1, c2, c3, c4, c5, c6⟩ := hA
  simp at he
  obtain ⟨rfl, rfl, rfl, rfl, rfl, rfl, rfl⟩ := he
  refine ⟨xr, cr, xg, cg, xv, cv, jx, jc, c0, c1, c2, c3, c4, c5, c6, h1, h2, h3, h4, ?_⟩
  rcases hJ with ⟨h1, h2, _, h3⟩ | h | h
  · exact .inl ⟨h1, h2, h3⟩
  · exact .inr (.inl h)
  · exact .inr (.inr h)

theorem quiet_of2 {P : Program} {f : FuncId} {args : Array Value} {w : World} {n x : Nat} {v : Value}
    (h : Calls P f args (w.drewN (n + x)) fun e w' => e = .returned v ∧ ∃ m, w' = (w.drewN (n + x)).drewN m) : Calls P f args (w.drewN (n + x)) fun e w'' => e = .returned v ∧ ∃ m, w'' = w.drewN (n + m) :=
  h.mono fun _ _ ⟨he, m, hm⟩ => ⟨he, x + m, by rw [hm, World.drewN_drewN, Nat.add_assoc]⟩
set_option maxHeartbeats 1600000 in
theorem eq_any : ∀ {d : Nat} (T : FT d) (l0 b0 o0 : Nat) (u0 : Value) (l1 b1 o1 : Nat) (u1 : Value) (w : World), At w b0 o0 u0 → IsF l0 w T u0 → At w b1 o1 u1 → IsF l1 w T u1 → T.names ≤ 1048576 → T.nodes ≤ 65536 →
    Calls Yba.prog 6 #[.pointer (some ⟨b0, o0, none⟩), .pointer (some ⟨b1, o1, none⟩)] w fun e w' => e = .returned (.bool true) ∧ ∃ k, w' = w.drewN k := by
  intro d T
  induction d, T using FT.ind with
  | nought d => intro l0 b0 o0 u0 l1 b1 o1 u1 w hA0 hF0; simp only [IsF_nought] at hF0
  | mk d t a r g v rows nl n kids ih =>
    intro l0 b0 o0 u0 l1 b1 o1 u1 w hA0 hF0 hA1 hF1 hnm hnd
    have hn := FT.n_nodes (t := t) (a := a) (r := r) (g := g) (v := v) (rows := rows) (nl := nl) (n := n) (kids := kids)
    have hrn : r.n ≤ 1048576 ∧ g.n ≤ 1048576 ∧ v.n ≤ 1048576 := by simp only [FT.names_mk] at hnm; omega
    have hkm : ∀ i, i < n → (kids i).names ≤ 1048576 := fun i hi => Nat.le_trans (FT.kid_names hi) hnm
    have hkd : ∀ i, i < n → (kids i).nodes ≤ 65536 := fun i hi => Nat.le_trans (FT.kid_nodes hi) hnd
    have hn' : n ≤ 65536 := by omega
    obtain ⟨xr, cr, xg, cg, xv, cv, jx, jc, c0, c1, c2, c3, c4, c5, c6, s1, s2, s3, _, kk⟩ := open_at hA0 hF0
    obtain ⟨yr, dr, yg, dg, yv, dv, jy, jd, d0, d1, d2, d3, d4, d5, d6, t1, t2, t3, _, kl⟩ := open_at hA1 hF1
    have HM : Hid (∀ i, i < n → (kids i).names ≤ 1048576) := hkm
    have HD : Hid (∀ i, i < n → (kids i).nodes ≤ 65536) := hkd
    have HIH : Hid (∀ i (l0 b0 o0 : Nat) (u0 : Value) (l1 b1 o1 : Nat) (u1 : Value) (w : World), At w b0 o0 u0 → IsF l0 w (kids i) u0 → At w b1 o1 u1 → IsF l1 w (kids i) u1 → (kids i).names ≤ 1048576 → (kids i).nodes ≤ 65536 → Calls Yba.prog 6 #[.pointer (some ⟨b0, o0, none⟩), .pointer (some ⟨b1, o1, none⟩)] w fun e w' => e = .returned (.bool true) ∧ ∃ k, w' = w.drewN k) := ih
    have HK : Hid (Kids l0 w jx n nl kids) := kk
    have HL : Hid (Kids l1 w jy n nl kids) := kl
    have S1 : Hid (IsS l0 w xr cr r) := s1
    have S2 : Hid (IsS l0 w xg cg g) := s2
    have S3 : Hid (IsS l0 w xv cv v) := s3
    have T1 : Hid (IsS l1 w yr dr r) := t1
    have T2 : Hid (IsS l1 w yg dg g) := t2
    have T3 : Hid (IsS l1 w yv dv v) := t3
    have hnx := fun (w : World) => Lib.run_eql_slice_nil (P := Yba.prog) w 24 26 jx n jc 0 0 Yba.underlying24
    have hny := fun (w : World) => Lib.run_eql_slice_nil (P := Yba.prog) w 24 26 jy n jd 0 0 Yba.underlying24
    rw [kk.isNone] at hnx
    rw [kl.isNone] at hny
    obtain ⟨hr1, hr2, hr3⟩ := hrn
    clear ih hkm hkd hnm hnd hn kk kl s1 s2 s3 t1 t2 t3 hA0 hA1 hF0 hF1
    go_enter Yba.func6, Yba.ntmps6
    go_wp2_with fail
    go_quiet (fail)
    go_wp2_with fail
    go_quiet (first
      | (go_at_call_of 8 (Value.slice xr r.n cr); exact quiet_of2 (eqs_any xr yr cr dr r _ (S1.out.drew _) (T1.out.drew _) hr1))
      | (go_at_call_of 8 (Value.slice xg g.n cg); exact quiet_of2 (eqs_any xg yg cg dg g _ (S2.out.drew _) (T2.out.drew _) hr2))
      | (go_at_call_of 8 (Value.slice xv v.n cv); exact quiet_of2 (eqs_any xv yv cv dv v _ (S3.out.drew _) (T3.out.drew _) hr3)))
    go_wp2_with fail
    go_quiet (fail)
    go_wp2_with fail
    go_loopw [100] (fun i wr => ∃ k m : Nat, k ≤ n ∧ i = .int .i64 k ∧ wr = w.drewN m) (fun i _ => n - (intOf i).toNat)
    case atStart => exact ⟨0, _, Nat.zero_le _, rfl, rfl⟩
    case round =>
      obtain ⟨k, m, hk, rfl, rfl⟩ := hrel
      by_cases hkn : k < n
      · rcases HK.out with ⟨_, h, _⟩ | ⟨_, _, h, _⟩ | ⟨jb, jo, rfl, hpos, hnl, hlo, hlt, hx⟩
        · omega
        · omega
        rcases HL.out with ⟨_, h, _⟩ | ⟨_, _, h, _⟩ | ⟨kb, ko, rfl, _, _, hlo2, hlt2, hy⟩
        · omega
        · omega
        have hkn' : (k : Int) < (n : Int) := by omega
        obtain ⟨u, hAu, hFu⟩ := hx k hkn
        obtain ⟨u', hAu', hFu'⟩ := hy k hkn
        have HA : Hid (At w jb (jo + k * 7) u) := hAu
        have HF : Hid (IsF l0 w (kids k) u) := hFu
        have HA' : Hid (At w kb (ko + k * 7) u') := hAu'
        have HF' : Hid (IsF l1 w (kids k) u') := hFu'
        clear hx hy hAu hFu hAu' hFu' hnx hny
        go_wp2_with fail
        go_quiet ((go_at_call 6; exact quiet_of2 (HIH.out k l0 jb (jo + k * 7) u l1 kb (ko + k * 7) u' _ (HA.out.drew _) (HF.out.drew _) (HA'.out.drew _) (HF'.out.drew _) (HM.out k hkn) (HD.out k hkn))))
        go_wp2_with fail
        go_roundw
        case rel => exact ⟨k + 1, _, by omega, by go_num, rfl⟩
        case measure => simp [intOf]; omega
      · go_wp2_with fail
        go_ret
        exact ⟨rfl, m, rfl⟩
end Go.Proofs.Ybulkdxpk
