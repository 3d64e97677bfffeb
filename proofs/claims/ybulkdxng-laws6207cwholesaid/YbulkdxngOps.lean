import Derived.Test.YbulkdxngMap
namespace Go.Proofs.Ybulkdxng
open Go.RowKit

def ents (S : Nat) (L : List Ent) : Array MapEntry := (L.map (ent S)).toArray

theorem run_upd {P : Program} {mty kt et : TypeId} (hm : P.underlying mty = some (.map kt et)) (hk : P.underlying kt = some .string)
    (ks : Nat → ByteArray) (i S : Nat) (L : List Ent) (c : Nat) (h : Says ks i L) :
    ∃ L' c', Says ks (i + 1) L' ∧ ∀ (r : Nat) (w : World), w.heap[r]? = some (.map (ents S L) c) →
      (Instr.mapUpdate mty (.map (some r)) (.string (ks i)) (.pointer (some ⟨S, i * 3, none⟩))).run P w = .ok () { w with heap := w.heap.setIfInBounds r (.map (ents S L') c') } := by
  have hkey : MapKept.IsKey .string (.string (ks i)) := by simp [MapKept.IsKey]
  have hf := findNow_look S (ks i) L 0
  cases hl : look L (ks i) 0 with
  | none =>
    rw [hl] at hf
    refine ⟨L ++ [(ks i, i, c)], c + 1, says_push c h hl, fun r w hb => ?_⟩
    have hf' : Instr.findNow .string (.string (ks i)) (ents S L).toList 0 = some none := by simpa [ents] using hf
    have hc : (Instr.checkKey false 10000 kt (.string (ks i))).run P w = .ok () w := MapKept.run_checkKey hk hkey false 9999
    simp [Instr.mapUpdate, run_underlying hm, MapKept.run_getObj_map hb, hc, MapKept.run_findKey hk hf', MapKept.run_setObj_map _ hb, Result.andThen]
    simp [ents, ent]
  | some q =>
    obtain ⟨p, u⟩ := q
    rw [hl] at hf
    obtain ⟨_, hp, b, hpb⟩ := look_lt hl
    simp at hp hpb
    refine ⟨L.modify p fun e => (ks i, i, e.2.2), c, says_set h hl, fun r w hb => ?_⟩
    have hf' : Instr.findNow .string (.string (ks i)) (ents S L).toList 0 = some (some (p, .pointer (some ⟨S, u * 3, none⟩))) := by simpa [ents] using hf
    have hc : (Instr.checkKey false 10000 kt (.string (ks i))).run P w = .ok () w := MapKept.run_checkKey hk hkey false 9999
    have hst : (Instr.keyThatStays (.string (ks i)) (.string (ks i))).run P w = .ok (.string (ks i)) w := MapKept.run_keyThatStays hkey
    have hold : (((ents S L)[p]?).map (·.key)).getD (.string (ks i)) = .string (ks i) := by simp [ents, hpb, ent]
    simp [Instr.mapUpdate, run_underlying hm, MapKept.run_getObj_map hb, hc, MapKept.run_findKey hk hf', hold, hst, MapKept.run_setObj_map _ hb, Result.andThen]
    congr 3
    simp only [ents]
    apply Array.ext_getElem?
    intro j
    simp only [Array.getElem?_modify, List.getElem?_toArray, List.getElem?_map, List.getElem?_modify]
    by_cases hj : p = j
    · subst hj
      cases L[p]? <;> simp [ent]
    · simp [hj]

theorem run_look {P : Program} {mty kt et : TypeId} {z : TypeInfo} (hm : P.underlying mty = some (.map kt et)) (hk : P.underlying kt = some .string) (hi : P.info? et = some z) (hz : z.zero = some (.pointer none))
    (ks : Nat → ByteArray) (i S : Nat) (L : List Ent) (c : Nat) (h : Says ks i L) (r : Nat) (w : World) (hb : w.heap[r]? = some (.map (ents S L) c)) (k : ByteArray) :
    (Instr.lookup mty (.map (some r)) (.string k) false).run P w = .ok (.pointer ((lastIdx ks i k).map fun j => ⟨S, j * 3, none⟩)) w := by
  have hkey : MapKept.IsKey .string (.string k) := by simp [MapKept.IsKey]
  have hf := findNow_look S k L 0
  rw [← h.1]
  have hc : (Instr.checkKey (ents S L).isEmpty 10000 kt (.string k)).run P w = .ok () w := MapKept.run_checkKey hk hkey _ 9999
  cases hl : look L k 0 with
  | none =>
    rw [hl] at hf
    have hf' : Instr.findNow .string (.string k) (ents S L).toList 0 = some none := by simpa [ents] using hf
    simp [Instr.lookup, run_underlying hm, MapKept.run_getObj_map hb, hc, MapKept.run_findKey hk hf', Result.andThen, zeroValue, typeInfo, hi, hz]
  | some q =>
    rw [hl] at hf
    have hf' : Instr.findNow .string (.string k) (ents S L).toList 0 = some (some (q.1, .pointer (some ⟨S, q.2 * 3, none⟩))) := by simpa [ents] using hf
    simp [Instr.lookup, run_underlying hm, MapKept.run_getObj_map hb, hc, MapKept.run_findKey hk hf', Result.andThen]
theorem run_look_nil {P : Program} {mty kt et : TypeId} {z : TypeInfo} (hm : P.underlying mty = some (.map kt et)) (hk : P.underlying kt = some .string) (hi : P.info? et = some z) (hz : z.zero = some (.pointer none))
    (w : World) (k : ByteArray) :
    (Instr.lookup mty (.map none) (.string k) false).run P w = .ok (.pointer none) w := by
  have hkey : MapKept.IsKey .string (.string k) := by simp [MapKept.IsKey]
  have hc : (Instr.checkKey true 10000 kt (.string k)).run P w = .ok () w := MapKept.run_checkKey hk hkey _ 9999
  have hf' : Instr.findNow .string (.string k) [] 0 = some none := rfl
  simp [Instr.lookup, run_underlying hm, hc, MapKept.run_findKey hk hf', Result.andThen, zeroValue, typeInfo, hi, hz]
theorem run_len_map {P : Program} {mty kt et : TypeId} (hm : P.underlying mty = some (.map kt et)) (ty : TypeId) (r : Nat) (w : World) (es : Array MapEntry) (c : Nat) (hb : w.heap[r]? = some (.map es c)) :
    (Builtin.len_ #[mty] ty #[.map (some r)]).run P w = .ok (.int .i64 es.size) w := by
  simp [Builtin.len_, run_underlying hm, MapKept.run_getObj_map hb, goInt]
end Go.Proofs.Ybulkdxng
