/-
  A map keyed by ints in memory, told by an association list: look-up, store, delete, len.
-/
import Derived.Test.Qxb6601556aPlain2
import Derived.WalkKit
import Derived.BigQuiet
import Derived.Deep.QuietTactic
import Derived.WalkLawsBesides
import Derived.WalkSpells
import Derived.Maps.OwnOps
import Derived.Maps.OwnSet
import Derived.Deep.RegionHeld3
import Derived.Deep.AppendLies
namespace Go.Proofs.Qxb6601556a
open Go.RowKit Go.MapKept
set_option linter.unusedVariables false
set_option linter.unusedSimpArgs false

/-- Block r is a map whose entries are, in order, m. -/
def VMap (w : World) (r : Nat) (m : List (Int × Value)) : Prop :=
  ∃ es c, w.heap[r]? = some (.map es c) ∧ es.toList.map (fun e => (e.key, e.val)) = m.map (fun p => (Value.int .i64 p.1, p.2))

theorem VMap.of_block {w w' : World} {r : Nat} {m : List (Int × Value)} (h : VMap w r m) (hb : w'.heap[r]? = w.heap[r]?) : VMap w' r m := by
  obtain ⟨es, c, h1, h2⟩ := h
  exact ⟨es, c, hb.trans h1, h2⟩
theorem VMap.lt {w : World} {r : Nat} {m : List (Int × Value)} (h : VMap w r m) : r < w.heap.size := by
  obtain ⟨es, c, h1, h2⟩ := h
  exact (Array.getElem?_eq_some_iff.1 h1).1

theorem findNow_v (k : Int) : ∀ (es : List MapEntry) (m : List (Int × Value)) (i : Nat), es.map (fun e => (e.key, e.val)) = m.map (fun p => (Value.int .i64 p.1, p.2)) →
    (Instr.findNow (.int .i64) (.int .i64 k) es i = some none ∧ Pl.get m k = none ∧ ∀ v, Pl.put m k v = m ++ [(k, v)] ∧ Pl.del m k = m) ∨
    ∃ j e v, Instr.findNow (.int .i64) (.int .i64 k) es i = some (some (i + j, v)) ∧ Pl.get m k = some v ∧ es[j]? = some e ∧ e.key = .int .i64 k ∧ (∀ v', Pl.put m k v' = m.set j (k, v')) ∧ Pl.del m k = m.eraseIdx j
  | [], m, i, h => by
    obtain rfl : m = [] := by simpa using h.symm
    exact .inl ⟨rfl, rfl, fun v => ⟨rfl, rfl⟩⟩
  | e :: es, [], i, h => by simp at h
  | e :: es, p :: m, i, h => by
    obtain ⟨a, b⟩ := p
    simp only [List.map_cons, List.cons.injEq, Prod.mk.injEq] at h
    obtain ⟨⟨hk, hv⟩, ht⟩ := h
    by_cases hak : a = k
    · subst hak
      refine .inr ⟨0, e, b, ?_, by simp [Pl.get], rfl, hk, fun v' => by simp [Pl.put], by simp [Pl.del]⟩
      simp [Instr.findNow, hk, Instr.sameNow, hv]
    · have hs : Instr.sameNow (.int .i64) (.int .i64 k) e.key = some false := by
        rw [hk]; simp [Instr.sameNow, Ne.symm hak]
      rcases findNow_v k es m (i + 1) ht with ⟨h1, h2, h3⟩ | ⟨j, e', v, h1, h2, h3, h4, h5, h6⟩
      · refine .inl ⟨by simp [Instr.findNow, hs, h1], by simp [Pl.get, hak, h2], fun v => ⟨?_, ?_⟩⟩
        · simp [Pl.put, hak, (h3 v).1]
        · simp [Pl.del, hak, (h3 v).2]
      · refine .inr ⟨j + 1, e', v, ?_, by simp [Pl.get, hak, h2], by simpa using h3, h4, fun v' => by simp [Pl.put, hak, h5 v'], by simp [Pl.del, hak, h6]⟩
        simp [Instr.findNow, hs, h1]; omega

section
variable {P : Program} {w : World} {r : Nat} {m : List (Int × Value)} {t key elem : TypeId}

theorem VMap.look (h : VMap w r m) (ht : P.underlying t = some (.map key elem)) (hk : P.underlying key = some (.int .i64)) {z : Value} (hz : (zeroValue elem).run P w = .ok z w) (k : Int) :
    (Instr.lookup t (.map (some r)) (.int .i64 k) false).run P w = .ok ((Pl.get m k).getD z) w := by
  obtain ⟨es, c, h1, h2⟩ := h
  have hkey : IsKey (.int .i64) (.int .i64 k) := by simp [IsKey]
  rcases findNow_v k es.toList m 0 h2 with ⟨f1, f2, _⟩ | ⟨j, e, v, f1, f2, _⟩
  · simp [Instr.lookup, run_underlying ht, MapKept.run_getObj_map h1, run_checkKey hk hkey, run_findKey hk f1, hz, Result.andThen, f2]
  · simp [Instr.lookup, run_underlying ht, MapKept.run_getObj_map h1, run_checkKey hk hkey, run_findKey hk f1, hz, Result.andThen, f2]

theorem VMap.lookOk (h : VMap w r m) (ht : P.underlying t = some (.map key elem)) (hk : P.underlying key = some (.int .i64)) {z : Value} (hz : (zeroValue elem).run P w = .ok z w) (k : Int) :
    (Instr.lookup t (.map (some r)) (.int .i64 k) true).run P w = .ok (.tuple #[(Pl.get m k).getD z, .bool (Pl.get m k).isSome]) w := by
  obtain ⟨es, c, h1, h2⟩ := h
  have hkey : IsKey (.int .i64) (.int .i64 k) := by simp [IsKey]
  rcases findNow_v k es.toList m 0 h2 with ⟨f1, f2, _⟩ | ⟨j, e, v, f1, f2, _⟩
  · simp [Instr.lookup, run_underlying ht, MapKept.run_getObj_map h1, run_checkKey hk hkey, run_findKey hk f1, hz, Result.andThen, f2]
  · simp [Instr.lookup, run_underlying ht, MapKept.run_getObj_map h1, run_checkKey hk hkey, run_findKey hk f1, hz, Result.andThen, f2]

theorem VMap.set (h : VMap w r m) {es' : Array MapEntry} {c' : Nat} {m' : List (Int × Value)} (he : es'.toList.map (fun e => (e.key, e.val)) = m'.map (fun p => (Value.int .i64 p.1, p.2))) :
    VMap (ChangeMaps.setBlock w r (.map es' c')) r m' ∧ w.grownBy (ChangeMaps.setBlock w r (.map es' c')) (some r) ∧ (ChangeMaps.setBlock w r (.map es' c')).heap.size = w.heap.size := by
  have hlt := h.lt
  obtain ⟨es, c, h1, h2⟩ := h
  have hs := heap_set (o' := .map es' c') h1
  refine ⟨⟨es', c', hs.1, he⟩, ⟨rfl, rfl, rfl, by simp [ChangeMaps.setBlock], fun k hk hne => hs.2 k (fun e => hne (by rw [e]))⟩, by simp [ChangeMaps.setBlock]⟩

theorem VMap.update (h : VMap w r m) (ht : P.underlying t = some (.map key elem)) (hk : P.underlying key = some (.int .i64)) (k : Int) (v : Value) :
    ∃ w', (Instr.mapUpdate t (.map (some r)) (.int .i64 k) v).run P w = .ok () w' ∧ VMap w' r (Pl.put m k v) ∧ w.grownBy w' (some r) ∧ w'.heap.size = w.heap.size := by
  have h0 := h
  obtain ⟨es, c, h1, h2⟩ := h
  have hkey : IsKey (.int .i64) (.int .i64 k) := by simp [IsKey]
  rcases findNow_v k es.toList m 0 h2 with ⟨f1, f2, f3⟩ | ⟨j, e, v0, f1, f2, f3, f4, f5, f6⟩
  · refine ⟨ChangeMaps.setBlock w r (.map (es.push { key := .int .i64 k, val := v, born := c }) (c + 1)), ?_, h0.set ?_⟩
    · simp [Instr.mapUpdate, run_underlying ht, MapKept.run_getObj_map h1, run_checkKey hk hkey, run_findKey hk f1, MapKept.run_setObj_map _ h1, Result.andThen, ChangeMaps.setBlock]
    · rw [(f3 v).1]; simp [h2]
  · have hj : es[j]? = some e := by simpa using f3
    refine ⟨ChangeMaps.setBlock w r (.map (es.modify j fun e => { e with key := .int .i64 k, val := v }) c), ?_, h0.set ?_⟩
    · simp [Instr.mapUpdate, run_underlying ht, MapKept.run_getObj_map h1, run_checkKey hk hkey, run_findKey hk f1, hj, f4, run_keyThatStays hkey, MapKept.run_setObj_map _ h1, Result.andThen, ChangeMaps.setBlock]
    · rw [f5 v]
      apply List.ext_getElem?
      intro i
      have hi := congrArg (fun l : List (Value × Value) => l[i]?) h2
      simp only [List.getElem?_map, Array.getElem?_toList, Array.getElem?_modify, List.getElem?_set] at hi ⊢
      by_cases hij : j = i
      · subst hij
        have hjm : j < m.length := by
          have := congrArg List.length h2
          simp at this
          have h3 := (Array.getElem?_eq_some_iff.1 hj).1
          omega
        simp [hj, hjm]
      · simp [hij, hi]

theorem VMap.drop (h : VMap w r m) (ht : P.underlying t = some (.map key elem)) (hk : P.underlying key = some (.int .i64)) (ty : TypeId) (k : Int) :
    ∃ w', (Builtin.delete_ #[t, key] ty #[.map (some r), .int .i64 k]).run P w = .ok (.tuple #[]) w' ∧ VMap w' r (Pl.del m k) ∧ w.grownBy w' (some r) ∧ w'.heap.size = w.heap.size := by
  have h0 := h
  obtain ⟨es, c, h1, h2⟩ := h
  have hkey : IsKey (.int .i64) (.int .i64 k) := by simp [IsKey]
  rcases findNow_v k es.toList m 0 h2 with ⟨f1, f2, f3⟩ | ⟨j, e, v0, f1, f2, f3, f4, f5, f6⟩
  · refine ⟨ChangeMaps.setBlock w r (.map es c), ?_, h0.set ?_⟩
    · simp [Builtin.delete_, run_underlying ht, MapKept.run_getObj_map h1, run_checkKey hk hkey, run_findKey hk f1, MapKept.run_setObj_map _ h1, Result.andThen, ChangeMaps.setBlock]
    · rw [(f3 (.bool true)).2]; exact h2
  · refine ⟨ChangeMaps.setBlock w r (.map (es.eraseIdxIfInBounds j) c), ?_, h0.set ?_⟩
    · simp [Builtin.delete_, run_underlying ht, MapKept.run_getObj_map h1, run_checkKey hk hkey, run_findKey hk f1, MapKept.run_setObj_map _ h1, Result.andThen, ChangeMaps.setBlock]
    · rw [f6]
      have hj : j < es.size := by
        have := (List.getElem?_eq_some_iff.1 f3).1; simpa using this
      have : (es.eraseIdxIfInBounds j).toList = es.toList.eraseIdx j := by
        simp [Array.eraseIdxIfInBounds, hj]
      rw [this]
      apply List.ext_getElem?
      intro i
      have hi := congrArg (fun l : List (Value × Value) => l[i]?) h2
      have hi1 := congrArg (fun l : List (Value × Value) => l[i + 1]?) h2
      simp only [List.getElem?_map, List.getElem?_eraseIdx] at hi hi1 ⊢
      split
      · exact hi
      · exact hi1

theorem VMap.size (h : VMap w r m) (ht : P.underlying t = some (.map key elem)) (ty : TypeId) :
    (Builtin.len_ #[t] ty #[.map (some r)]).run P w = .ok (.int .i64 m.length) w := by
  obtain ⟨es, c, h1, h2⟩ := h
  have := congrArg List.length h2
  simp at this
  simp [Builtin.len_, run_underlying ht, goInt, MapKept.run_getObj_map h1, Result.andThen, this]
end

end Go.Proofs.Qxb6601556a
