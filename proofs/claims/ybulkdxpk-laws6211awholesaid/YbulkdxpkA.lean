import Derived.Test.YbulkdxpkRows
import Derived.WalkKit
import Derived.WalkSpells
import Derived.WalkLawsBesides
import Derived.Deep.QuietTactic
import Derived.BigQuiet
import Derived.Deep.Cut
import Derived.Deep.CutRange
import Derived.OpenShut
import Derived.MapKept
import Derived.Lib.SliceRun
namespace Go.Proofs.Ybulkdxpk
open Go.RowKit
set_option linter.unusedVariables false

/-! ### The plain part: a footprint as a tree -/
structure SL where
  nil : Bool
  n : Nat
  s : Nat → ByteArray
/-- a node over children of type K -/
structure Nd (K : Type) where
  t : ByteArray
  a : ByteArray
  r : SL
  g : SL
  v : SL
  rows : Int
  nl : Bool
  n : Nat
  kids : Nat → K
/-- a footprint of at most d layers -/
def FT : Nat → Type
  | 0 => Unit
  | d + 1 => Option (Nd (FT d))
def FT.nought : {d : Nat} → FT d
  | 0 => ()
  | _ + 1 => none
def FT.mk {d : Nat} (t a : ByteArray) (r g v : SL) (rows : Int) (nl : Bool) (n : Nat) (kids : Nat → FT d) : FT (d + 1) := some ⟨t, a, r, g, v, rows, nl, n, kids⟩
theorem FT.ind {motive : (d : Nat) → FT d → Prop} (nought : ∀ d, motive d FT.nought)
    (mk : ∀ (d : Nat) (t a : ByteArray) (r g v : SL) (rows : Int) (nl : Bool) (n : Nat) (kids : Nat → FT d), (∀ i, motive d (kids i)) → motive (d + 1) (FT.mk t a r g v rows nl n kids)) : ∀ (d : Nat) (T : FT d), motive d T
  | 0, _ => nought 0
  | d + 1, none => nought (d + 1)
  | d + 1, some x => mk d x.t x.a x.r x.g x.v x.rows x.nl x.n x.kids fun i => FT.ind nought mk d (x.kids i)
theorem FT.split : ∀ (d : Nat) (T : FT d), T = FT.nought ∨ ∃ (d' : Nat) (t a : ByteArray) (r g v : SL) (rows : Int) (nl : Bool) (n : Nat) (kids : Nat → FT d'), (⟨d, T⟩ : (d : Nat) × FT d) = ⟨d' + 1, FT.mk t a r g v rows nl n kids⟩
  | 0, _ => .inl rfl
  | d + 1, none => .inl rfl
  | d + 1, some x => .inr ⟨d, x.t, x.a, x.r, x.g, x.v, x.rows, x.nl, x.n, x.kids, rfl⟩
def sumTo : Nat → (Nat → Nat) → Nat
  | 0, _ => 0
  | k + 1, f => sumTo k f + f k
theorem le_sumTo (f : Nat → Nat) : ∀ k i, i < k → f i ≤ sumTo k f
  | 0, i, h => by omega
  | k + 1, i, h => by
    simp only [sumTo]
    by_cases e : i = k
    · subst e; omega
    · have := le_sumTo f k i (by omega); omega
theorem sumTo_mono (f : Nat → Nat) {a b : Nat} (h : a ≤ b) : sumTo a f ≤ sumTo b f := by
  induction b with
  | zero => have : a = 0 := by omega
            subst this; exact Nat.le_refl _
  | succ b ih =>
    by_cases e : a = b + 1
    · subst e; exact Nat.le_refl _
    · have := ih (by omega)
      simp only [sumTo]; omega
theorem ge_sumTo (f : Nat → Nat) (h : ∀ i, 1 ≤ f i) : ∀ k, k ≤ sumTo k f
  | 0 => Nat.le_refl _
  | k + 1 => by
    have := ge_sumTo f h k
    have := h k
    simp only [sumTo]; omega
def FT.nodes : {d : Nat} → FT d → Nat
  | 0, _ => 1
  | _ + 1, none => 1
  | _ + 1, some x => 1 + sumTo x.n fun i => (x.kids i).nodes
def FT.names : {d : Nat} → FT d → Nat
  | 0, _ => 0
  | _ + 1, none => 0
  | _ + 1, some x => x.r.n + x.g.n + x.v.n + sumTo x.n fun i => (x.kids i).names
section
variable {d : Nat} {t a : ByteArray} {r g v : SL} {rows : Int} {nl : Bool} {n : Nat} {kids : Nat → FT d}
theorem FT.nodes_mk : (FT.mk t a r g v rows nl n kids).nodes = 1 + sumTo n fun i => (kids i).nodes := rfl
theorem FT.names_mk : (FT.mk t a r g v rows nl n kids).names = r.n + g.n + v.n + sumTo n fun i => (kids i).names := rfl
end
theorem FT.nodes_nought : ∀ {d : Nat}, (FT.nought : FT d).nodes = 1
  | 0 => rfl
  | _ + 1 => rfl
theorem FT.names_nought : ∀ {d : Nat}, (FT.nought : FT d).names = 0
  | 0 => rfl
  | _ + 1 => rfl
theorem FT.nodes_pos {d : Nat} (T : FT d) : 1 ≤ T.nodes := by
  induction d, T using FT.ind with
  | nought d => rw [FT.nodes_nought]; exact Nat.le_refl _
  | mk d t a r g v rows nl n kids ih => rw [FT.nodes_mk]; omega

/-! ### The memory -/
def IsS (lo : Nat) (w : World) (x : Option Addr) (c : Nat) (q : SL) : Prop :=
  (x = none ∧ q.n = 0 ∧ c = 0 ∧ q.nil = true) ∨ (∃ ad, x = some ad ∧ q.n = 0 ∧ q.nil = false) ∨
  ∃ b o, x = some ⟨b, o, none⟩ ∧ 0 < q.n ∧ q.nil = false ∧ lo ≤ b ∧ b < w.heap.size ∧ ∀ i, i < q.n → w.cell? ⟨b, o + i, none⟩ = some (.string (q.s i))
theorem IsS.keep {lo : Nat} {w w' : World} {x : Option Addr} {c : Nat} {q : SL} (hs : w.heap.size ≤ w'.heap.size) (hc : ∀ b o, lo ≤ b → b < w.heap.size → w'.cell? ⟨b, o, none⟩ = w.cell? ⟨b, o, none⟩) (h : IsS lo w x c q) : IsS lo w' x c q := by
  rcases h with h | h | ⟨b, o, rfl, hn, hnl, hlo, hlt, hx⟩
  · exact .inl h
  · exact .inr (.inl h)
  · exact .inr (.inr ⟨b, o, rfl, hn, hnl, hlo, by omega, fun i hi => by rw [hc b _ hlo hlt]; exact hx i hi⟩)
theorem IsS.mono {lo lo' : Nat} {w : World} {x : Option Addr} {c : Nat} {q : SL} (hl : lo' ≤ lo) (h : IsS lo w x c q) : IsS lo' w x c q := by
  rcases h with h | h | ⟨b, o, rfl, hn, hnl, hlo, hlt, hx⟩
  · exact .inl h
  · exact .inr (.inl h)
  · exact .inr (.inr ⟨b, o, rfl, hn, hnl, by omega, hlt, hx⟩)
theorem IsS.below {lo : Nat} {w w' : World} {x : Option Addr} {c : Nat} {q : SL} (h : IsS lo w x c q) (hb : Below w.heap.size w w') : IsS lo w' x c q :=
  h.keep hb.size fun b o _ hlt => hb.cell (p := ⟨b, o, none⟩) hlt

def At (w : World) (b o : Nat) (u : Value) : Prop :=
  ∃ u0 u1 u2 u3 u4 u5 u6, u = .agg #[u0, u1, u2, u3, u4, u5, u6] ∧ w.cell? ⟨b, o, none⟩ = some u0 ∧ w.cell? ⟨b, o + 1, none⟩ = some u1 ∧ w.cell? ⟨b, o + 2, none⟩ = some u2 ∧ w.cell? ⟨b, o + 3, none⟩ = some u3 ∧ w.cell? ⟨b, o + 4, none⟩ = some u4 ∧ w.cell? ⟨b, o + 5, none⟩ = some u5 ∧ w.cell? ⟨b, o + 6, none⟩ = some u6
theorem At.same {w w' : World} {b o : Nat} {u : Value} (hc : ∀ o, w'.cell? ⟨b, o, none⟩ = w.cell? ⟨b, o, none⟩) (h : At w b o u) : At w' b o u := by
  obtain ⟨u0, u1, u2, u3, u4, u5, u6, rfl, h0, h1, h2, h3, h4, h5, h6⟩ := h
  exact ⟨u0, u1, u2, u3, u4, u5, u6, rfl, by rw [hc]; exact h0, by rw [hc]; exact h1, by rw [hc]; exact h2, by rw [hc]; exact h3, by rw [hc]; exact h4, by rw [hc]; exact h5, by rw [hc]; exact h6⟩

def IsF (lo : Nat) (w : World) : {d : Nat} → FT d → Value → Prop
  | 0, _, _ => False
  | _ + 1, none, _ => False
  | _ + 1, some x, val => ∃ xr cr xg cg xv cv jx jc, val = .agg #[.string x.t, .string x.a, .slice xr x.r.n cr, .slice xg x.g.n cg, .slice xv x.v.n cv, .int .i64 x.rows, .slice jx x.n jc] ∧
      IsS lo w xr cr x.r ∧ IsS lo w xg cg x.g ∧ IsS lo w xv cv x.v ∧ (x.r.n ≤ 8796093022208 ∧ x.g.n ≤ 8796093022208 ∧ x.v.n ≤ 8796093022208 ∧ x.n ≤ 8796093022208) ∧
      ((jx = none ∧ x.n = 0 ∧ jc = 0 ∧ x.nl = true) ∨ (∃ ad, jx = some ad ∧ x.n = 0 ∧ x.nl = false) ∨
       ∃ b o, jx = some ⟨b, o, none⟩ ∧ 0 < x.n ∧ x.nl = false ∧ lo ≤ b ∧ b < w.heap.size ∧ ∀ i, i < x.n → ∃ u, At w b (o + i * 7) u ∧ IsF lo w (x.kids i) u)
theorem IsF_nought {lo : Nat} {w : World} {u : Value} : ∀ {d : Nat}, IsF lo w (FT.nought : FT d) u = False
  | 0 => rfl
  | _ + 1 => rfl
theorem IsF_mk {lo : Nat} {w : World} {d : Nat} {t a : ByteArray} {r g v : SL} {rows : Int} {nl : Bool} {n : Nat} {kids : Nat → FT d} {val : Value} : IsF lo w (FT.mk t a r g v rows nl n kids) val = (∃ xr cr xg cg xv cv jx jc, val = .agg #[.string t, .string a, .slice xr r.n cr, .slice xg g.n cg, .slice xv v.n cv, .int .i64 rows, .slice jx n jc] ∧
      IsS lo w xr cr r ∧ IsS lo w xg cg g ∧ IsS lo w xv cv v ∧ (r.n ≤ 8796093022208 ∧ g.n ≤ 8796093022208 ∧ v.n ≤ 8796093022208 ∧ n ≤ 8796093022208) ∧
      ((jx = none ∧ n = 0 ∧ jc = 0 ∧ nl = true) ∨ (∃ ad, jx = some ad ∧ n = 0 ∧ nl = false) ∨
       ∃ b o, jx = some ⟨b, o, none⟩ ∧ 0 < n ∧ nl = false ∧ lo ≤ b ∧ b < w.heap.size ∧ ∀ i, i < n → ∃ u, At w b (o + i * 7) u ∧ IsF lo w (kids i) u)) := rfl

theorem IsF.keep {lo : Nat} {w w' : World} (hs : w.heap.size ≤ w'.heap.size) (hc : ∀ b o, lo ≤ b → b < w.heap.size → w'.cell? ⟨b, o, none⟩ = w.cell? ⟨b, o, none⟩) : ∀ {d : Nat} (T : FT d) (u : Value), IsF lo w T u → IsF lo w' T u := by
  intro d T
  induction d, T using FT.ind with
  | nought d => intro u h; simp only [IsF_nought] at h
  | mk d t a r g v rows nl n kids ih =>
    intro u h
    simp only [IsF_mk] at h ⊢
    obtain ⟨xr, cr, xg, cg, xv, cv, jx, jc, rfl, h1, h2, h3, h4, h5⟩ := h
    refine ⟨xr, cr, xg, cg, xv, cv, jx, jc, rfl, h1.keep hs hc, h2.keep hs hc, h3.keep hs hc, h4, ?_⟩
    rcases h5 with h | h | ⟨b, o, rfl, hn, hnl, hlo, hlt, hx⟩
    · exact .inl h
    · exact .inr (.inl h)
    · refine .inr (.inr ⟨b, o, rfl, hn, hnl, hlo, by omega, fun i hi => ?_⟩)
      obtain ⟨u, hA, hF⟩ := hx i hi
      exact ⟨u, hA.same (fun o => hc b o hlo hlt), ih i u hF⟩
theorem IsF.mono {lo lo' : Nat} {w : World} (hl : lo' ≤ lo) : ∀ {d : Nat} (T : FT d) (u : Value), IsF lo w T u → IsF lo' w T u := by
  intro d T
  induction d, T using FT.ind with
  | nought d => intro u h; simp only [IsF_nought] at h
  | mk d t a r g v rows nl n kids ih =>
    intro u h
    simp only [IsF_mk] at h ⊢
    obtain ⟨xr, cr, xg, cg, xv, cv, jx, jc, rfl, h1, h2, h3, h4, h5⟩ := h
    refine ⟨xr, cr, xg, cg, xv, cv, jx, jc, rfl, h1.mono hl, h2.mono hl, h3.mono hl, h4, ?_⟩
    rcases h5 with h | h | ⟨b, o, rfl, hn, hnl, hlo, hlt, hx⟩
    · exact .inl h
    · exact .inr (.inl h)
    · refine .inr (.inr ⟨b, o, rfl, hn, hnl, by omega, hlt, fun i hi => ?_⟩)
      obtain ⟨u, hA, hF⟩ := hx i hi
      exact ⟨u, hA, ih i u hF⟩
theorem IsF.below {lo : Nat} {w w' : World} {d : Nat} {T : FT d} {u : Value} (h : IsF lo w T u) (hb : Below w.heap.size w w') : IsF lo w' T u :=
  IsF.keep hb.size (fun b o _ hlt => hb.cell (p := ⟨b, o, none⟩) hlt) T u h

theorem Yba.info9 : (Yba.prog.info? 9).map (fun i => (i.zero, i.size, i.bytes)) = some (some (.string ByteArray.empty), 1, 16) := by kernel_rfl

/-! ### slices.Clone -/
set_option maxHeartbeats 400000 in
theorem clone_nil (w : World) :
    Calls Yba.prog 7 #[.slice none 0 0] w fun e w' => e = .returned (.slice none 0 0) ∧ w' = w := by
  have hnil := fun (w : World) => Lib.run_eql_slice_nil (P := Yba.prog) w 23 9 none 0 0 0 0 Yba.underlying23
  go_enter Yba.func7, Yba.ntmps7
  go_wp2
  go_ret
  exact ⟨rfl, rfl⟩

set_option maxHeartbeats 400000 in
theorem clone_some (ad : Addr) (n c : Nat) (cs : List Value) (w : World) (hn : cs.length = n) (hb : n ≤ 1048576)
   (hsrc : ∀ j v, cs[j]? = some v → w.cell? (ad.add j) = some v) (h1 : ∀ v ∈ cs, v.oneCell' = true) :
    Calls Yba.prog 7 #[.slice (some ad) n c] w fun e w' => ∃ g cap, e = .returned (.slice (some ⟨g, 0, none⟩) n cap) ∧ w'.ownsRow w.heap.size 9 1 (.slice (some ⟨g, 0, none⟩) n cap) n cs ∧ Below w.heap.size w w' := by
  have hnil := fun (w : World) => Lib.run_eql_slice_nil (P := Yba.prog) w 23 9 (some ad) n c 0 0 Yba.underlying23
  obtain ⟨i0, hi, hz0, hz1, hz2⟩ := info_parts Yba.info9
  have hsrc' : ∀ j v, cs[j]? = some v → (w.alloc (.cells #[] 9)).cell? (ad.add j) = some v := by
    intro j v hj
    have h := hsrc j v hj
    rw [World.cell?_alloc_lt w _ _ (World.block_lt_of_cell? w _ h)]
    exact h
  have hmade := World.ownsRow_made (base := w.heap.size) (e := 9) (size := 1) w #[] 0 (Nat.le_refl _) (Nat.zero_le _) rfl
  have HM : Hid ((w.alloc (.cells #[] 9)).ownsRow w.heap.size 9 1 (.slice (some ⟨w.heap.size, 0, none⟩) 0 0) 0 []) := hmade
  clear hmade hsrc
  go_enter Yba.func7, Yba.ntmps7
  go_wp2_with (at_builtin; refine wpList_append_own _ rfl (.tmp 5) (.tmp 6) 23 rfl w.heap.size 9 i0 (.string ByteArray.empty) 1 16 Yba.underlying23 hi hz0 hz1 hz2 rfl (by decide) _ 0 [] rfl HM.out ad n c cs rfl (by omega) hsrc' h1 (by unfold maxLen; omega) (by omega) (by simp) ?_)
  intro v' w' hown hgrow hnn
  have hbel : Below w.heap.size w w' := ((Below.refl _ _).alloc (Nat.le_refl _) _).grown hgrow (by simp) (by intro k hk; simp [Value.ownBlock] at hk; omega)
  have hex : ∃ g cap, v' = .slice (some ⟨g, 0, none⟩) n cap := by
    rcases hown.2 with ⟨rfl, hz⟩ | ⟨g, cap, cur, rfl, _⟩
    · simp at hnn
    · exact ⟨g, cap, rfl⟩
  obtain ⟨g, cap, hv⟩ := hex
  rw [hv] at hown
  rw [hv]
  have HO : Hid (w'.ownsRow w.heap.size 9 1 (.slice (some ⟨g, 0, none⟩) n cap) n cs) := hown
  clear hown hsrc' h1 hi hz0 hz1 hz2 hgrow hnn hv
  go_wp2
  go_ret
  exact ⟨g, cap, rfl, HO.out, hbel⟩

theorem clone_any {lo : Nat} (x : Option Addr) (c : Nat) (q : SL) (w : World) (h : IsS lo w x c q) (hn : q.n ≤ 1048576) :
    Calls Yba.prog 7 #[.slice x q.n c] w fun e w' => ∃ x' c', e = .returned (.slice x' q.n c') ∧ IsS w.heap.size w' x' c' q ∧ Below w.heap.size w w' := by
  rcases h with ⟨rfl, h0, rfl, hnl⟩ | ⟨ad, rfl, h0, hnl⟩ | ⟨b, o, rfl, hpos, hnl, _, hlt, hc⟩
  · rw [h0]
    refine (clone_nil w).mono ?_
    rintro e w' ⟨rfl, rfl⟩
    exact ⟨none, 0, rfl, .inl ⟨rfl, h0, rfl, hnl⟩, Below.refl _ _⟩
  · rw [h0]
    refine (clone_some ad 0 c [] w (by simp) (by omega) (by simp) (by simp)).mono ?_
    rintro e w' ⟨g, cap, rfl, _, hb⟩
    exact ⟨_, _, rfl, .inr (.inl ⟨_, rfl, h0, hnl⟩), hb⟩
  · refine (clone_some ⟨b, o, none⟩ q.n c ((List.range q.n).map fun i => .string (q.s i)) w (by simp) hn ?_ ?_).mono ?_
    · intro j v hj
      have hj3 : j < q.n := by
        have := (List.getElem?_eq_some_iff.1 hj).1
        simpa using this
      simp [hj3] at hj
      subst hj
      rw [Addr.add_lit]
      exact hc j hj3
    · intro v hv
      obtain ⟨j, _, rfl⟩ := List.mem_map.1 hv
      rfl
    · rintro e w' ⟨g, cap, rfl, hown, hb⟩
      refine ⟨_, _, rfl, .inr (.inr ⟨_, _, rfl, hpos, hnl, (hown.lt g rfl).1, (hown.lt g rfl).2, fun i hi => ?_⟩), hb⟩
      have := hown.cells (g := g) rfl i (.string (q.s i)) (by simp [hi])
      simpa [Addr.add_lit] using this

/-! ### slices.Equal over strings -/
set_option maxHeartbeats 400000 in
theorem equal_zero (x y : Option Addr) (c0 c1 : Nat) (w : World) :
    Calls Yba.prog 9 #[.slice x 0 c0, .slice y 0 c1] w fun e w' => e = .returned (.bool true) ∧ ∃ k, w' = w.drewN k := by
  go_enter Yba.func9, Yba.ntmps9
  go_wp2
  refine wp_loop_rounds 1 ?_
  rw [rounds_succ]
  go_wp2
  go_ret
  exact ⟨rfl, 0, rfl⟩
set_option maxHeartbeats 400000 in
theorem equal_pos (b0 o0 b1 o1 n c0 c1 : Nat) (zs : Nat → ByteArray) (w : World) (hn : n ≤ 1048576)
    (hx : ∀ i, i < n → w.cell? ⟨b0, o0 + i, none⟩ = some (.string (zs i))) (hy : ∀ i, i < n → w.cell? ⟨b1, o1 + i, none⟩ = some (.string (zs i))) :
    Calls Yba.prog 9 #[.slice (some ⟨b0, o0, none⟩) n c0, .slice (some ⟨b1, o1, none⟩) n c1] w fun e w' => e = .returned (.bool true) ∧ ∃ k, w' = w.drewN k := by
  go_enter Yba.func9, Yba.ntmps9
  go_wp2
  go_loopw [13] (fun i wr => ∃ k m : Nat, k ≤ n ∧ i = .int .i64 k ∧ wr = w.drewN m) (fun i _ => n - (intOf i).toNat)
  case atStart => exact ⟨0, 0, Nat.zero_le _, rfl, rfl⟩
  case round =>
    obtain ⟨k, m, hk, rfl, rfl⟩ := hrel
    by_cases hlt : k < n
    · have h0 := hx k hlt
      have h1 := hy k hlt
      have hlt' : (k : Int) < (n : Int) := by omega
      clear hx hy
      go_wp2
      go_quiet (fail)
      go_wp2
      go_roundw
      case rel => exact ⟨k + 1, m + nq, by omega, by go_num, rfl⟩
      case measure => simp [intOf]; omega
    · go_wp2
      go_ret
      exact ⟨rfl, m, rfl⟩
theorem equal_any {l0 l1 : Nat} (x y : Option Addr) (c d : Nat) (q : SL) (w : World) (hx : IsS l0 w x c q) (hy : IsS l1 w y d q) (hn : q.n ≤ 1048576) :
    Calls Yba.prog 9 #[.slice x q.n c, .slice y q.n d] w fun e w' => e = .returned (.bool true) ∧ ∃ k, w' = w.drewN k := by
  by_cases h0 : q.n = 0
  · rw [h0]; exact equal_zero x y c d w
  · rcases hx with ⟨_, h, _⟩ | ⟨_, _, h, _⟩ | ⟨b, o, rfl, hpos, _, _, hlt, hc⟩
    · omega
    · omega
    · rcases hy with ⟨_, h, _⟩ | ⟨_, _, h, _⟩ | ⟨b', o', rfl, hpos', _, _, hlt', hc'⟩
      · omega
      · omega
      · exact equal_pos b o b' o' q.n c d q.s w hn hc hc'
theorem IsS.isNone {lo : Nat} {w : World} {x : Option Addr} {c : Nat} {q : SL} (h : IsS lo w x c q) : x.isNone = q.nil := by
  rcases h with ⟨rfl, _, _, h⟩ | ⟨ad, rfl, _, h⟩ | ⟨b, o, rfl, _, h, _⟩ <;> simp [h]
set_option maxHeartbeats 400000 in
theorem eqs_any {l0 l1 : Nat} (x y : Option Addr) (c d : Nat) (q : SL) (w : World) (hx : IsS l0 w x c q) (hy : IsS l1 w y d q) (hn : q.n ≤ 1048576) :
    Calls Yba.prog 8 #[.slice x q.n c, .slice y q.n d] w fun e w' => e = .returned (.bool true) ∧ ∃ k, w' = w.drewN k := by
  have hnx := fun (w : World) => Lib.run_eql_slice_nil (P := Yba.prog) w 23 9 x q.n c 0 0 Yba.underlying23
  have hny := fun (w : World) => Lib.run_eql_slice_nil (P := Yba.prog) w 23 9 y q.n d 0 0 Yba.underlying23
  rw [hx.isNone] at hnx
  rw [hy.isNone] at hny
  have HX : Hid (IsS l0 w x c q) := hx
  have HY : Hid (IsS l1 w y d q) := hy
  clear hx hy
  go_enter Yba.func8, Yba.ntmps8
  go_wp2_with fail
  refine (equal_any x y c d q w HX.out HY.out hn).mono ?_
  rintro e w' ⟨rfl, k, rfl⟩
  go_wp2_with fail
  go_ret
  exact ⟨rfl, k, rfl⟩
end Go.Proofs.Ybulkdxpk
