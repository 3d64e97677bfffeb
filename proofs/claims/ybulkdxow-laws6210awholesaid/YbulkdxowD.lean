import Derived.Test.YbulkdxowC
import Derived.Laws.AppendOwnNone
namespace Go.Proofs.Ybulkdxow
open Go.RowKit

def Bytes (zs : List Int) : Prop := ∀ z ∈ zs, 0 ≤ z ∧ z ≤ 255
theorem bits_u8 (op : BinOp) (x y : Int) : 0 ≤ bits op .u8 x y ∧ bits op .u8 x y ≤ 255 := bounds_u8 (wf_bits op .u8 x y)
theorem wrap_u8 (x : Int) : 0 ≤ IntKind.u8.wrap x ∧ IntKind.u8.wrap x ≤ 255 := bounds_u8 (wf_wrap .u8 x)

set_option maxHeartbeats 400000 in
theorem appuv (x : Nat) (w : World) (hx : x ≤ 16777216) :
    Calls Yba.prog 5 #[.slice none 0 0, .int .u64 x] w fun e w' => ∃ v m zs, e = .returned v ∧ w'.ownsRow w.heap.size 5 1 v m (zs.map (Value.int .u8)) ∧ Bytes zs ∧ 0 < m ∧ m ≤ 16777217 ∧ Below w.heap.size w w' := by
  obtain ⟨i0, hi, hz0, hz1, hz2⟩ := info_parts Yba.info5
  go_enter Yba.func5, Yba.ntmps5
  go_wp2_with fail
  go_loopw [0, 1] (fun v t wr => ∃ (m k : Nat) (zs : List Int), t = .int .u64 k ∧ m + k ≤ 16777216 ∧ wr.ownsRow w.heap.size 5 1 v m (zs.map (Value.int .u8)) ∧ Bytes zs ∧ Below w.heap.size w wr) (fun _ t _ => (intOf t).toNat)
  case atStart => exact ⟨0, x, [], rfl, by omega, World.ownsRow_nil _ _ _ _, fun z hz => by simp at hz, Below.refl _ _⟩
  case round =>
    obtain ⟨m, k, zs, rfl, hmk, hown, hzs, hbel⟩ := hrel
    have HO : Hid (wr.ownsRow w.heap.size 5 1 u0 m (zs.map (Value.int .u8))) := hown
    have HZ : Hid (Bytes zs) := hzs
    have hszr := hbel.size
    clear hown hzs
    by_cases hk : 128 ≤ k
    · have hk' : (128 : Int) ≤ (k : Int) := by omega
      have hkm : m + 1 ≤ 16777216 := by omega
      obtain ⟨q, hq⟩ : ∃ q, q = bits BinOp.or IntKind.u8 ((k : Int) % 256) 128 := ⟨_, rfl⟩
      have hqb : 0 ≤ q ∧ q ≤ 255 := by rw [hq]; exact bits_u8 _ _ _
      have hq2 := hq.symm
      clear hq
      go_wp2_with (at_builtin; refine wpList_append_own _ rfl (.tmp 7) (.tmp 11) 22 rfl w.heap.size 5 i0 (.int .u8 0) 1 1 Yba.underlying22 hi hz0 hz1 hz2 rfl (by decide) u0 m (zs.map (Value.int .u8)) rfl (HO.out.alloc _) ⟨wr.heap.size, 0, none⟩ 1 1 [.int .u8 q] rfl rfl (cell_one_new _ _ _) (ints_oneCell .u8 [q]) (by unfold maxLen; omega) (by omega) (by simp; omega) ?_)
      intro v' w2 hown' hgrow hnn
      have R1 : w2.ownsRow w.heap.size 5 1 v' (m + 1) ((zs ++ [q]).map (Value.int .u8)) := by simpa using hown'
      have R2 : Below w.heap.size w w2 := (hbel.alloc (by omega) _).grown hgrow (by simp; omega) (fun r hr => (HO.out.lt r hr).1)
      have R3 : Bytes (zs ++ [q]) := by
        intro z hz
        rcases List.mem_append.1 hz with h | h
        · exact HZ.out z h
        · simp at h; subst h; exact hqb
      have HR1 : Hid (w2.ownsRow w.heap.size 5 1 v' (m + 1) ((zs ++ [q]).map (Value.int .u8))) := R1
      have HR3 : Hid (Bytes (zs ++ [q])) := R3
      clear R1 R3 hown' hgrow hnn HO hq2
      go_wp2_with fail
      go_roundw
      case rel => exact ⟨m + 1, k / 128, zs ++ [q], by go_num, by omega, HR1.out, HR3.out, R2⟩
      case measure => simp [intOf]; omega
    · have hk' : ¬ (128 : Int) ≤ (k : Int) := by omega
      obtain ⟨q, hq⟩ : ∃ q : Int, q = (k : Int) % 256 := ⟨_, rfl⟩
      have hqb : 0 ≤ q ∧ q ≤ 255 := by omega
      have hkk : (k : Int) % 256 = k := by omega
      go_wp2_with (at_builtin; refine wpList_append_own _ rfl (.tmp 15) (.tmp 18) 22 rfl w.heap.size 5 i0 (.int .u8 0) 1 1 Yba.underlying22 hi hz0 hz1 hz2 rfl (by decide) u0 m (zs.map (Value.int .u8)) rfl (HO.out.alloc _) ⟨wr.heap.size, 0, none⟩ 1 1 [.int .u8 (k : Int)] rfl rfl (cell_one_new _ _ _) (ints_oneCell .u8 [(k : Int)]) (by unfold maxLen; omega) (by omega) (by simp; omega) ?_)
      intro v' w2 hown' hgrow hnn
      have R1 : w2.ownsRow w.heap.size 5 1 v' (m + 1) ((zs ++ [(k : Int)]).map (Value.int .u8)) := by simpa using hown'
      have R2 : Below w.heap.size w w2 := (hbel.alloc (by omega) _).grown hgrow (by simp; omega) (fun r hr => (HO.out.lt r hr).1)
      have R3 : Bytes (zs ++ [(k : Int)]) := by
        intro z hz
        rcases List.mem_append.1 hz with h | h
        · exact HZ.out z h
        · simp at h; subst h; omega
      have HR1 : Hid (w2.ownsRow w.heap.size 5 1 v' (m + 1) ((zs ++ [(k : Int)]).map (Value.int .u8))) := R1
      have HR3 : Hid (Bytes (zs ++ [(k : Int)])) := R3
      clear R1 R3 hown' hgrow hnn HO hq hkk
      go_wp2_with fail
      go_ret
      exact ⟨_, m + 1, zs ++ [(k : Int)], rfl, HR1.out, HR3.out, by omega, by omega, R2⟩
end Go.Proofs.Ybulkdxow
