/-
  A map with integer keys, by what it holds: a plain function from keys to values. Over whatever program.
-/
import Derived.ChangeMaps5
import Derived.Laws.AppendOwn
import Derived.WalkKit
namespace Go.Proofs.Ybulkbopq
open Go.RowKit Go.MapKept
open Go.ChangeMaps (setBlock heap_setBlock_same heap_setBlock_other)

/-- Block b is a map of n entries, its keys integers of kind q; it holds just what f says. -/
def MapIs (w : World) (q : IntKind) (b : Nat) (f : Int → Option Value) (n : Nat) : Prop :=
  ∃ es clock, w.heap[b]? = some (.map es clock) ∧ es.size = n ∧ (∀ e ∈ es.toList, ∃ k, e.key = .int q k ∧ f k = some e.val) ∧
    (∀ k v, f k = some v → ∃ e ∈ es.toList, e.key = .int q k) ∧ (es.toList.map (·.key)).Nodup

def fput (f : Int → Option Value) (k : Int) (v : Value) : Int → Option Value := fun j => if j = k then some v else f j

theorem MapIs.lt {w : World} {q : IntKind} {b n : Nat} {f : Int → Option Value} (h : MapIs w q b f n) : b < w.heap.size := by
  obtain ⟨es, clock, hb, _⟩ := h
  exact (Array.getElem?_eq_some_iff.1 hb).1

theorem MapIs.made (w : World) (q : IntKind) : MapIs (w.alloc (.map #[] 0)) q w.heap.size (fun _ => none) 0 :=
  ⟨#[], 0, heap_alloc_new w _, rfl, by simp, by simp, by simp⟩

theorem MapIs.of_block {w w' : World} {q : IntKind} {b n : Nat} {f : Int → Option Value} (h : MapIs w q b f n) (hb : w'.heap[b]? = w.heap[b]?) : MapIs w' q b f n := by
  obtain ⟨es, clock, hh, r⟩ := h
  exact ⟨es, clock, hb.trans hh, r⟩

theorem isKeys {q : IntKind} {es : List MapEntry} {f : Int → Option Value} (h : ∀ e ∈ es, ∃ k, e.key = .int q k ∧ f k = some e.val) : ∀ e ∈ es, IsKey (.int q) e.key := by
  intro e he
  obtain ⟨k, hk, _⟩ := h e he
  rw [hk]
  simp [IsKey]

theorem MapIs.lookup {P : Program} {w : World} {q : IntKind} {b n : Nat} {f : Int → Option Value} (h : MapIs w q b f n) {t kt et : TypeId} (ht : P.underlying t = some (.map kt et)) (hk : P.underlying kt = some (.int q))
    {z : Value} (hz : (zeroValue et).run P w = .ok z w) (k : Int) :
    (Instr.lookup t (.map (some b)) (.int q k) true).run P w = .ok (.tuple #[(f k).getD z, .bool (f k).isSome]) w := by
  obtain ⟨es, clock, hb, hn, h1, h2, hnd⟩ := h
  have hkey : IsKey (.int q) (.int q k) := by simp [IsKey]
  rcases findNow_spec hkey es.toList 0 (isKeys h1) with ⟨e1, e2⟩ | ⟨j, e0, e1, e2, e3⟩
  · have hf : f k = none := by
      cases hf : f k with
      | none => rfl
      | some v =>
        obtain ⟨e, he, hek⟩ := h2 k v hf
        exact absurd hek (e2 e he)
    rw [hf]
    simp [Instr.lookup, run_underlying ht, MapKept.run_getObj_map hb, run_checkKey hk hkey, run_findKey hk e1, hz, Result.andThen]
  · have hf : f k = some e0.val := by
      obtain ⟨k', hk', hv⟩ := h1 e0 (List.mem_of_getElem? e2)
      rw [e3] at hk'
      cases hk'
      exact hv
    rw [hf]
    simp [Instr.lookup, run_underlying ht, MapKept.run_getObj_map hb, run_checkKey hk hkey, run_findKey hk e1, Result.andThen]

theorem modify_keys (es : Array MapEntry) (j : Nat) (g : MapEntry → MapEntry) (hg : ∀ e, es[j]? = some e → (g e).key = e.key) : (es.modify j g).toList.map (·.key) = es.toList.map (·.key) := by
  apply List.ext_getElem?
  intro i
  simp only [List.getElem?_map, Array.getElem?_toList, Array.getElem?_modify]
  by_cases h : j = i
  · subst h
    cases he : es[j]? with
    | none => simp
    | some e => simp [hg e he]
  · simp [h]

theorem MapIs.update {P : Program} {w : World} {q : IntKind} {b n : Nat} {f : Int → Option Value} (h : MapIs w q b f n) {t kt et : TypeId} (ht : P.underlying t = some (.map kt et)) (hk : P.underlying kt = some (.int q))
    (k : Int) (v : Value) :
    ∃ w', (Instr.mapUpdate t (.map (some b)) (.int q k) v).run P w = .ok () w' ∧ MapIs w' q b (fput f k v) (if (f k).isSome then n else n + 1) ∧ w.grownBy w' (some b) := by
  obtain ⟨es, clock, hb, hn, h1, h2, hnd⟩ := h
  have hkey : IsKey (.int q) (.int q k) := by simp [IsKey]
  have grown : ∀ o, w.grownBy (setBlock w b o) (some b) := fun o => ⟨rfl, rfl, rfl, by simp [setBlock], fun i _ hi => heap_setBlock_other hb _ (fun e => hi (by rw [e]))⟩
  rcases findNow_spec hkey es.toList 0 (isKeys h1) with ⟨e1, e2⟩ | ⟨j, e0, e1, e2, e3⟩
  · have hf : f k = none := by
      cases hf : f k with
      | none => rfl
      | some v =>
        obtain ⟨e, he, hek⟩ := h2 k v hf
        exact absurd hek (e2 e he)
    refine ⟨setBlock w b (.map (es.push ⟨.int q k, v, clock⟩) (clock + 1)), ?_, ⟨_, _, heap_setBlock_same hb _, by simp [hf, hn], ?_, ?_, ?_⟩, grown _⟩
    · simp [Instr.mapUpdate, run_underlying ht, MapKept.run_getObj_map hb, run_checkKey hk hkey, run_findKey hk e1, MapKept.run_setObj_map _ hb, Result.andThen, setBlock]
    · intro x hx
      simp only [Array.toList_push, List.mem_append, List.mem_singleton] at hx
      rcases hx with hx | rfl
      · obtain ⟨k', hk', hv⟩ := h1 x hx
        refine ⟨k', hk', ?_⟩
        have : k' ≠ k := fun e => e2 x hx (by rw [hk', e])
        simp [fput, this, hv]
      · exact ⟨k, rfl, by simp [fput]⟩
    · intro k' v' hv'
      by_cases hkk : k' = k
      · subst hkk
        exact ⟨⟨.int q k', v, clock⟩, by simp, rfl⟩
      · simp only [fput, hkk, if_false] at hv'
        obtain ⟨e, he, hek⟩ := h2 k' v' hv'
        exact ⟨e, by simp [he], hek⟩
    · rw [Array.toList_push, List.map_append, List.nodup_append]
      refine ⟨hnd, by simp, ?_⟩
      intro a ha b' hb'
      obtain ⟨e, he, rfl⟩ := List.mem_map.1 ha
      simp at hb'
      subst hb'
      exact e2 e he
  · have hj : es[j]? = some e0 := by simpa using e2
    have hf : f k = some e0.val := by
      obtain ⟨k', hk', hv⟩ := h1 e0 (List.mem_of_getElem? e2)
      rw [e3] at hk'
      cases hk'
      exact hv
    have hkeys := modify_keys es j (fun e' => { e' with key := .int q k, val := v }) (fun e' he' => by rw [hj] at he'; cases he'; exact e3.symm)
    refine ⟨setBlock w b (.map (es.modify j (fun e' => { e' with key := .int q k, val := v })) clock), ?_, ⟨_, _, heap_setBlock_same hb _, by simp [hf, hn], ?_, ?_, by rw [hkeys]; exact hnd⟩, grown _⟩
    · simp [Instr.mapUpdate, run_underlying ht, MapKept.run_getObj_map hb, run_checkKey hk hkey, run_findKey hk e1, hj, e3, run_keyThatStays hkey, MapKept.run_setObj_map _ hb, Result.andThen, setBlock]
    · intro x hx
      obtain ⟨i, hi⟩ := List.getElem?_of_mem hx
      rw [Array.getElem?_toList, Array.getElem?_modify] at hi
      by_cases hji : j = i
      · subst hji
        rw [if_pos rfl, hj] at hi
        simp at hi
        subst hi
        exact ⟨k, rfl, by simp [fput]⟩
      · rw [if_neg hji] at hi
        have hx' : x ∈ es.toList := List.mem_of_getElem? (by rw [Array.getElem?_toList]; exact hi)
        obtain ⟨k', hk', hv⟩ := h1 x hx'
        refine ⟨k', hk', ?_⟩
        have : k' ≠ k := by
          intro e
          subst e
          have a1 : (es.toList.map (·.key))[i]? = some (.int q k') := by rw [List.getElem?_map, Array.getElem?_toList, hi]; simp [hk']
          have a2 : (es.toList.map (·.key))[j]? = some (.int q k') := by rw [List.getElem?_map, Array.getElem?_toList, hj]; simp [e3]
          have hlt : i < (es.toList.map (·.key)).length := (List.getElem?_eq_some_iff.1 a1).1
          exact hji ((List.getElem?_inj hlt hnd).1 (a1.trans a2.symm)).symm
        simp [fput, this, hv]
    · intro k' v' hv'
      have hex : ∃ e ∈ es.toList, e.key = .int q k' := by
        by_cases hkk : k' = k
        · subst hkk
          exact ⟨e0, List.mem_of_getElem? e2, e3⟩
        · simp only [fput, hkk, if_false] at hv'
          exact h2 k' v' hv'
      obtain ⟨e, he, hek⟩ := hex
      have : (Value.int q k') ∈ (es.modify j (fun e' => { e' with key := .int q k, val := v })).toList.map (·.key) := by
        rw [hkeys]
        exact List.mem_map.2 ⟨e, he, hek⟩
      obtain ⟨e', he', hek'⟩ := List.mem_map.1 this
      exact ⟨e', he', hek'⟩

theorem MapIs.len {P : Program} {w : World} {q : IntKind} {b n : Nat} {f : Int → Option Value} (h : MapIs w q b f n) {t kt et : TypeId} (ht : P.underlying t = some (.map kt et)) (ty : TypeId) :
    (Builtin.len_ #[t] ty #[.map (some b)]).run P w = .ok (.int .i64 n) w := by
  obtain ⟨es, clock, hb, hn, _⟩ := h
  subst hn
  simp [Builtin.len_, run_underlying ht, MapKept.run_getObj_map hb, goInt, Result.andThen]

end Go.Proofs.Ybulkbopq
