import Derived.Test.YbulkdxmsD
import Derived.Deep.Cut
namespace Go.Proofs.Ybulkdxms
open Go.RowKit

theorem below_two (w : World) (A B : Obj) : Below w.heap.size w ((w.alloc A).alloc B) := ((Below.refl _ _).alloc (Nat.le_refl _) _).alloc (by simp) _
theorem below_two_drew (w : World) (A B : Obj) (k : Nat) : Below w.heap.size w (((w.alloc A).alloc B).drewN k) := by
  have h := below_two w A B
  exact ⟨h.os, h.tape, h.output, h.size, h.block⟩
def Got (ms : Nat → Int × ByteArray × Bool) (n : Nat) (id : Int) (gi : Int) (ga : ByteArray) (gl ok : Bool) : Prop :=
  (ok = true ∧ ∃ j, j < n ∧ (ms j).1 = id ∧ (∀ i, i < j → (ms i).1 ≠ id) ∧ gi = (ms j).1 ∧ ga = (ms j).2.1 ∧ gl = (ms j).2.2) ∨
  (ok = false ∧ (∀ i, i < n → (ms i).1 ≠ id) ∧ gi = 0 ∧ ga = ⟨#[]⟩ ∧ gl = false)
theorem Got.one {ms : Nat → Int × ByteArray × Bool} {n : Nat} {id : Int} {gi hi : Int} {ga ha : ByteArray} {gl ok hl hk : Bool} (h : Got ms n id gi ga gl ok) (h' : Got ms n id hi ha hl hk) : gi = hi ∧ ga = ha ∧ gl = hl ∧ ok = hk := by
  rcases h with ⟨rfl, j, hj, hq, hm, rfl, rfl, rfl⟩ | ⟨rfl, hn, rfl, rfl, rfl⟩
  · rcases h' with ⟨rfl, j', hj', hq', hm', rfl, rfl, rfl⟩ | ⟨rfl, hn', rfl, rfl, rfl⟩
    · have : j = j' := by
        rcases Nat.lt_trichotomy j j' with h | h | h
        · exact absurd hq (hm' j h)
        · exact h
        · exact absurd hq' (hm j' h)
      subst this
      exact ⟨rfl, rfl, rfl, rfl⟩
    · exact absurd hq (hn' j hj)
  · rcases h' with ⟨rfl, j', hj', hq', hm', rfl, rfl, rfl⟩ | ⟨rfl, hn', rfl, rfl, rfl⟩
    · exact absurd hq' (hn j' hj')
    · exact ⟨rfl, rfl, rfl, rfl⟩
theorem member_got (x y : Option Addr) (n c m d : Nat) (id : Int) (ms : Nat → Int × ByteArray × Bool) (w : World) (h : IsM w x n c ms) (hn : n ≤ 1048576) :
    Calls Yba.prog 6 #[.agg #[.slice x n c, .slice y m d], .int .u64 id] w fun e w' => ∃ gi ga gl ok, e = .returned (.tuple #[.agg #[.int .u64 gi, .string ga, .bool gl], .bool ok]) ∧ Got ms n id gi ga gl ok ∧ Below w.heap.size w w' := by
  refine (member_any x y n c m d id ms w h hn).mono ?_
  rintro e w' ⟨⟨j, h1, h2, h3, rfl⟩ | ⟨h1, rfl⟩, hb⟩
  · exact ⟨_, _, _, _, rfl, .inl ⟨rfl, j, h1, h2, h3, rfl, rfl, rfl⟩, hb⟩
  · exact ⟨_, _, _, _, rfl, .inr ⟨rfl, h1, rfl, rfl, rfl⟩, hb⟩

set_option maxRecDepth 100000 in
set_option maxHeartbeats 400000 in
theorem law_small (x y : Option Addr) (n c m d : Nat) (id pick : Int) (ms : Nat → Int × ByteArray × Bool) (zs : Nat → Int) (w : World) (hM : IsM w x n c ms) (hR : IsR w y m d zs) (hp : 0 ≤ pick ∧ pick ≤ 255) (hsmall : n + m ≤ 1048576) :
    Calls Yba.prog 3 #[.slice x n c, .slice y m d, .int .u64 id, .int .u8 pick] w fun e w' => e = .returned (.bool true) ∧ Below w.heap.size w w' := by
  obtain ⟨hp0, hp1⟩ := hp
  have hsm : (n : Int) + (m : Int) ≤ 1048576 := by omega
  go_enter Yba.func3, Yba.ntmps3
  go_upto_region 3 with fail
  go_cut [31] from 24 (fun t wc => t = .bool (decide (pick % 2 = 0 ∧ 0 < n)) ∧ wc = w)
  case first =>
    go_wp2
    all_goals go_meet
    all_goals exact ⟨congrArg Value.bool (by simp; omega), rfl⟩
  case rest =>
  obtain ⟨rfl, rfl⟩ := hcut
  go_upto_if 31 with fail
  go_cut [2] from 24 (fun t wc' => ∃ id', t = .int .u64 id' ∧ wc' = wc)
  case first =>
    by_cases hq : pick % 2 = 0 ∧ 0 < n
    · have hM' := hM
      rcases hM' with ⟨_, h, _⟩ | ⟨_, _, h⟩ | ⟨b, o, rfl, hpos, hlt, hc⟩
      · omega
      · omega
      have hq0 : 0 ≤ pick / 2 % (n : Int) := Int.emod_nonneg _ (by omega)
      have hq1 : pick / 2 % (n : Int) < (n : Int) := Int.emod_lt_of_pos _ (by omega)
      go_wp2
      go_meet
      exact ⟨_, rfl, rfl⟩
    · go_wp2
      go_meet
      exact ⟨_, rfl, rfl⟩
  case rest =>
  obtain ⟨id', rfl, rfl⟩ := hcut
  go_wp2_with fail
  refine (copym_any x n c ms _ hM (by omega)).mono ?_
  rintro e w1 ⟨x1, c1, rfl, hx1', hM1, hb1⟩
  have hx1 : Hid (x.isNone = x1.isNone) := hx1'
  clear hx1'
  go_wp2_with fail
  refine (copyr_any y m d zs _ (hR.below hb1) (by omega)).mono ?_
  rintro e w2 ⟨y1, d1, rfl, hy1', hR1, hb2⟩
  have hy1 : Hid (y.isNone = y1.isNone) := hy1'
  clear hy1'
  go_wp2_with fail
  have hal : Below w2.heap.size w2 (w2.alloc (Obj.cells #[Value.slice x n c, Value.slice y m d] 30)) := (Below.refl _ _).alloc (Nat.le_refl _) _
  refine (member_got x y n c m d id' ms _ (((hM.below hb1).below hb2).below hal) (by omega)).mono ?_
  rintro e w3 ⟨gi, ga, gl, ok, rfl, hgot, hb3⟩
  have H1 : IsM w3 x n c ms := (((hM.below hb1).below hb2).below hal).below hb3
  have H2 : IsM w3 x1 n c1 ms := ((hM1.below hb2).below hal).below hb3
  have H3 : IsR w3 y m d zs := (((hR.below hb1).below hb2).below hal).below hb3
  have H4 : IsR w3 y1 m d1 zs := (hR1.below hal).below hb3
  have HB : Below wc.heap.size wc w3 := ((hb1.trans (hb2.mono hb1.size)).trans (hal.mono (Nat.le_trans hb1.size hb2.size))).trans (hb3.mono (by simp; have := hb1.size; have := hb2.size; omega))
  clear hal hb3 hb2 hb1 hM hM1 hR hR1
  go_wp2_with fail
  have hal4 : Below w3.heap.size w3 (w3.alloc (Obj.cells #[Value.int .u64 gi, Value.string ga, Value.bool gl] 26)) := (Below.refl _ _).alloc (Nat.le_refl _) _
  go_loop [14, 15] (fun f i => ∃ k : Nat, k ≤ n ∧ i = .int .i64 ((k : Int) - 1) ∧ ((f = .int .i64 (-1) ∧ ∀ j, k ≤ j → j < n → (ms j).1 ≠ id') ∨ ∃ j : Nat, k ≤ j ∧ j < n ∧ f = .int .i64 j ∧ (ms j).1 = id' ∧ ∀ l, k ≤ l → l < j → (ms l).1 ≠ id')) (fun _ i => (intOf i + 1).toNat)
  case atStart => exact ⟨n, Nat.le_refl _, rfl, .inl ⟨rfl, by omega⟩⟩
  case round =>
    obtain ⟨k, hk, rfl, hf⟩ := hrel
    by_cases hk0 : 0 < k
    · have H2' := H2.below hal4
      rcases H2' with ⟨_, h, _⟩ | ⟨_, _, h⟩ | ⟨b, o, rfl, hpos, hlt, hc⟩
      · omega
      · omega
      obtain ⟨k', rfl⟩ : ∃ k', k = k' + 1 := ⟨k - 1, by omega⟩
      have e1 : ((k' + 1 : Nat) : Int) - 1 = k' := by omega
      rw [e1]
      have hc0 := (hc k' (by omega)).1
      clear hc e1
      have hkn : (k' : Int) < (n : Int) := by omega
      by_cases hq : ((ms k').1 == id') = true
      · go_wp2_with fail
        go_round
        case rel => exact ⟨k', by omega, rfl, .inr ⟨k', Nat.le_refl _, by omega, rfl, by simpa using hq, by omega⟩⟩
        case measure => simp [intOf]
      · go_wp2_with fail
        go_round
        case rel =>
          refine ⟨k', by omega, rfl, ?_⟩
          have hne : (ms k').1 ≠ id' := by simpa using hq
          rcases hf with ⟨h1, h2⟩ | ⟨j, h1, h2, h3, h4, h5⟩
          · refine .inl ⟨h1, fun j hj hjn => ?_⟩
            by_cases e : j = k'
            · subst e; exact hne
            · exact h2 j (by omega) hjn
          · refine .inr ⟨j, by omega, h2, h3, h4, fun l hl hlj => ?_⟩
            by_cases e : l = k'
            · subst e; exact hne
            · exact h5 l (by omega) hlj
        case measure => simp [intOf]
    · have hz : k = 0 := by omega
      subst hz
      rcases hf with ⟨rfl, hno⟩ | ⟨j, _, hjn, rfl, hjq, hjm⟩
      · obtain ⟨rfl, rfl, rfl, rfl⟩ := hgot.one (.inr ⟨rfl, fun i hi => hno i (Nat.zero_le _) hi, rfl, rfl, rfl⟩)
        clear hno hgot
        go_wp2_with fail
        refine (samem_any _ _ n _ _ ms _ (H1.below (below_two w3 _ _)) (H2.below (below_two w3 _ _)) hx1.out (by omega)).mono ?_
        rintro e w' ⟨rfl, k1, rfl⟩
        go_wp2_with fail
        refine (samer_any _ _ m _ _ zs _ (H3.below (below_two_drew w3 _ _ k1)) (H4.below (below_two_drew w3 _ _ k1)) hy1.out (by omega)).mono ?_
        rintro e w' ⟨rfl, k2, rfl⟩
        go_wp2_with fail
        go_ret
        exact ⟨rfl, HB.trans ((below_two_drew w3 _ _ (k1 + k2)).mono HB.size)⟩
      · obtain ⟨rfl, rfl, rfl, rfl⟩ := hgot.one (.inl ⟨rfl, j, hjn, hjq, fun i hi => hjm i (Nat.zero_le _) hi, rfl, rfl, rfl⟩)
        clear hgot hjm hjq
        have H2' := H2
        rcases H2' with ⟨_, h, _⟩ | ⟨_, _, h⟩ | ⟨b, o, rfl, hpos, hlt, hc⟩
        · omega
        · omega
        obtain ⟨c0, c1, c2⟩ := hc j hjn
        clear hc
        have hlt' : b < w3.heap.size + 1 := by omega
        have hjn' : (j : Int) < (n : Int) := by omega
        go_wp2_with fail
        refine (samem_any _ _ n _ _ ms _ (H1.below (below_two w3 _ _)) (H2.below (below_two w3 _ _)) hx1.out (by omega)).mono ?_
        rintro e w' ⟨rfl, k1, rfl⟩
        go_wp2_with fail
        refine (samer_any _ _ m _ _ zs _ (H3.below (below_two_drew w3 _ _ k1)) (H4.below (below_two_drew w3 _ _ k1)) hy1.out (by omega)).mono ?_
        rintro e w' ⟨rfl, k2, rfl⟩
        go_wp2_with fail
        go_ret
        exact ⟨rfl, HB.trans ((below_two_drew w3 _ _ (k1 + k2)).mono HB.size)⟩

set_option maxHeartbeats 400000 in
theorem law_big (x y : Option Addr) (n c m d : Nat) (id pick : Int) (w : World) (hn : n ≤ 140737488351232) (hm : m ≤ 140737488351232) (hbig : 1048576 < n + m) :
    Calls Yba.prog 3 #[.slice x n c, .slice y m d, .int .u64 id, .int .u8 pick] w fun e w' => e = .returned (.bool true) ∧ Below w.heap.size w w' := by
  go_enter Yba.func3, Yba.ntmps3
  go_wp2_with fail
  go_ret
  exact ⟨rfl, Below.refl _ _⟩
theorem law_any (x y : Option Addr) (n c m d : Nat) (id pick : Int) (ms : Nat → Int × ByteArray × Bool) (zs : Nat → Int) (w : World) (hM : IsM w x n c ms) (hR : IsR w y m d zs) (hp : 0 ≤ pick ∧ pick ≤ 255) (hn : n ≤ 140737488351232) (hm : m ≤ 140737488351232) :
    Calls Yba.prog 3 #[.slice x n c, .slice y m d, .int .u64 id, .int .u8 pick] w fun e w' => e = .returned (.bool true) ∧ Below w.heap.size w w' := by
  by_cases h : n + m ≤ 1048576
  · exact law_small x y n c m d id pick ms zs w hM hR hp h
  · exact law_big x y n c m d id pick w hn hm (by omega)
end Go.Proofs.Ybulkdxms
