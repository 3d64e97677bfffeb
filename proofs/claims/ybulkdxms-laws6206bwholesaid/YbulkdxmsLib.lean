import Derived.Test.YbulkdxmsRows
import Derived.WalkKit
import Derived.WalkSpells
import Derived.WalkLawsBesides
import Derived.Deep.QuietTactic
import Derived.BigQuiet
namespace Go.Proofs.Ybulkdxms
open Go.RowKit

theorem setRow_alloc (w : World) (M cs : Array Value) (e : TypeId) : (w.alloc (.cells M e)).setRow w.heap.size cs = w.alloc (.cells cs e) := by
  unfold World.setRow World.alloc
  congr 1
  apply Array.ext_getElem?
  intro k
  rw [Array.getElem?_modify, Array.getElem?_push, Array.getElem?_push]
  by_cases hk : w.heap.size = k
  · subst hk; simp
  · have hk2 : ¬ k = w.heap.size := fun e => hk e.symm
    simp [hk, hk2]

/-- 'copy(dst, src)' into a row that has just been made, of the same length; elements of whatever size. -/
theorem run_copy_made {P : Program} (w : World) (dT sT ty elem : TypeId) (hu : P.underlying dT = some (.slice elem)) (sz : Nat) (hsz : (P.info? elem).map (·.size) = some sz)
    (n : Nat) (ad : Addr) (sCap : Nat) (M : Array Value) (cs : List Value) (hn : cs.length = n * sz) (hM : M.size = n * sz)
    (hsrc : ∀ j v, cs[j]? = some v → w.cell? (ad.add j) = some v) (h1 : ∀ v ∈ cs, v.oneCell' = true) :
    (Builtin.copy_ #[dT, sT] ty #[.slice (some ⟨w.heap.size, 0, none⟩) n n, .slice (some ad) n sCap]).run P (w.alloc (.cells M elem)) = .ok (goInt n) (w.alloc (.cells cs.toArray elem)) := by
  have hsrc' : ∀ j v, cs[j]? = some v → (w.alloc (.cells M elem)).cell? (ad.add j) = some v := by
    intro j v hj
    have h := hsrc j v hj
    rw [World.cell?_alloc_lt w _ _ (World.block_lt_of_cell? w _ h)]
    exact h
  have hl := run_firstCells_some (P := P) (w.alloc (.cells M elem)) sz n ad n sCap cs hn hsrc'
  have hst := run_storeCells_at P w.heap.size 0 elem cs 0 M (w.alloc (.cells M elem)) (heap_alloc_new w _) (by simp [hn, hM]) h1
  have e : (M.toList.take (0 + 0) ++ cs ++ M.toList.drop (0 + 0 + cs.length)).toArray = cs.toArray := by
    simp [hn, ← hM]
  rw [e, setRow_alloc] at hst
  cases hq : P.info? elem with
  | none => simp [hq] at hsz
  | some i =>
    have hi : i.size = sz := by simpa [hq] using hsz
    simp [Builtin.copy_, run_underlying hu, Builtin.lenOf, sizeOf, typeInfo, hq, hi, hl, hst]

/-- 'make([]T, n)'. -/
theorem run_make_n {P : Program} (t e : TypeId) (z : Value) (size bytes : Nat) (ht : P.underlying t = some (.slice e)) (hi : (P.info? e).map (fun i => (i.zero, i.size, i.bytes)) = some (some z, size, bytes))
    (n : Nat) (hb : bytes * n ≤ 281474976710656) (h63 : n ≤ 9223372036854775807) (w : World) :
    (Instr.makeSlice t (.int .i64 (n : Int)) (.int .i64 (n : Int))).run P w = .ok (.slice (some ⟨w.heap.size, 0, none⟩) n n) (w.alloc (.cells (madeCells z.cells (n * size)) e)) := by
  obtain ⟨i, h1, h2, h3, h4⟩ := info_parts hi
  have hb' : (i.bytes : Int) * (n : Int) ≤ 281474976710656 := by
    rw [h4]
    have h : ((bytes * n : Nat) : Int) ≤ 281474976710656 := by omega
    rwa [Int.natCast_mul] at h
  have hr := run_make (P := P) w t e i z ht h1 h2 .i64 .i64 n n (by omega) (Int.le_refl _) hb' (by omega)
  simpa [h3] using hr
end Go.Proofs.Ybulkdxms
