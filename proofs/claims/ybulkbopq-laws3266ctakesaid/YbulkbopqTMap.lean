/-
  The maps whose keys are key spaces: three of them, each a table's address.
-/
import Derived.Test.YbulkbopqTFold
import Derived.LaidEql
import Derived.Laws.StructEq
import Derived.ChangeMaps5
namespace Go.Proofs.Ybulkbopq
open Go.RowKit Go.Sort Go.MapKept
open Go.ChangeMaps (setBlock heap_setBlock_same heap_setBlock_other)

/-- The j-th key space. -/
def kv (T : Nat → Nat) (j : Nat) : Value := .agg #[.pointer (some ⟨T j, 0, none⟩), .pointer none]

/-- The tables lie in blocks of their own. -/
def Tabs (w : World) (T : Nat → Nat) : Prop := (∀ i j, i < 3 → j < 3 → T i = T j → i = j) ∧ ∀ j, j < 3 → ∃ c, w.heap[T j]? = some (.cells c 78 (0, 0))

theorem kv_inj {w : World} {T : Nat → Nat} (h : Tabs w T) {i j : Nat} (hi : i < 3) (hj : j < 3) (e : kv T i = kv T j) : i = j := by
  unfold kv at e
  simp only [Value.agg.injEq, Array.mk.injEq, List.cons.injEq, Value.pointer.injEq, Option.some.injEq, Addr.mk.injEq, and_true] at e
  exact h.1 i j hi hj e

theorem ptr_equal (d : Nat) {w : World} {T : Nat → Nat} (h : Tabs w T) {i j : Nat} (hi : i < 3) (hj : j < 3) :
    (Op.equalIn (d + 1) 64 (.pointer (some ⟨T i, 0, none⟩)) (.pointer (some ⟨T j, 0, none⟩))).run Yba.prog w = .ok (decide (i = j)) w := by
  have hs := Yba.sizeOf78 w
  by_cases e : i = j
  · subst e
    simp [Op.equalIn, run_underlying Yba.underlying64, hs, run_sameAddr_same]
  · obtain ⟨ci, hci⟩ := h.2 i hi
    obtain ⟨cj, hcj⟩ := h.2 j hj
    have hne : (⟨T i, 0, none⟩ : Addr) ≠ ⟨T j, 0, none⟩ := fun e' => e (h.1 i j hi hj (by simpa using e'))
    have := run_sameAddr_other (P := Yba.prog) (w := w) hne hci hcj
    simp [Op.equalIn, run_underlying Yba.underlying64, hs, this, e]

theorem nil_equal (d : Nat) (w : World) : (Op.equalIn (d + 1) 79 (.pointer none) (.pointer none)).run Yba.prog w = .ok true w := by simp [Op.equalIn, run_underlying Yba.underlying79]
theorem held81 : Yba.prog.stoodInHeld 81 = false := by kernel_rfl

theorem key_equal {w : World} {T : Nat → Nat} (h : Tabs w T) {i j : Nat} (hi : i < 3) (hj : j < 3) : (Op.equal 81 (kv T i) (kv T j)).run Yba.prog w = .ok (decide (i = j)) w := by
  unfold Op.equal Op.maxDepth kv
  rw [show (10000 : Nat) = 9998 + 1 + 1 from rfl]
  have hf : Yba.prog.underlying 81 = some (.struct (Yba.prog.fieldsOf 81)) := by kernel_rfl
  rw [run_equalIn_struct w (9998 + 1) 81 _ _ hf held81]
  have e1 := ptr_equal 9998 h hi hj
  have e2 := nil_equal 9998 w
  have hfl : (Yba.prog.fieldsOf 81).toList = [{ name := "t", type := 64, offset := 0, embedded := false, tag := "", pkgPath := "example.com/heapstrata/heapstrata", byteOffset := 0 }, { name := "ix", type := 79, offset := 1, embedded := false, tag := "", pkgPath := "example.com/heapstrata/heapstrata", byteOffset := 8 }] := by kernel_rfl
  rw [hfl]
  have p1 : ∀ (v0 v1 : Value), v0.oneCell' = true → (part 64 #[v0, v1] 0).run Yba.prog w = .ok v0 w := fun v0 v1 hv => by
    simp [part, Yba.sizeOf64, Yba.isAgg64]
  have p2 : ∀ (v0 v1 : Value), v1.oneCell' = true → (part 79 #[v0, v1] 1).run Yba.prog w = .ok v1 w := fun v0 v1 hv => by
    simp [part, Yba.sizeOf79, Yba.isAgg79]
  simp only [Op.eqFields, Sem.run_bind, Sem.run_ite, p1 _ _ (rfl : (Value.pointer (some ⟨T i, 0, none⟩)).oneCell' = true), p1 _ _ (rfl : (Value.pointer (some ⟨T j, 0, none⟩)).oneCell' = true), p2 _ _ (rfl : (Value.pointer none).oneCell' = true), e1, e2, Result.andThen_ok]
  by_cases e : i = j <;> simp [e]

/-- Block b is a map of n entries, its keys key spaces; it holds just what f says. -/
def MapK (w : World) (T : Nat → Nat) (b : Nat) (f : Nat → Option Value) (n : Nat) : Prop :=
  ∃ es clock, w.heap[b]? = some (.map es clock) ∧ es.size = n ∧ (∀ e ∈ es.toList, ∃ j, j < 3 ∧ e.key = kv T j ∧ f j = some e.val) ∧
    (∀ j v, j < 3 → f j = some v → ∃ e ∈ es.toList, e.key = kv T j) ∧ (es.toList.map (·.key)).Nodup

def kput (f : Nat → Option Value) (k : Nat) (v : Value) : Nat → Option Value := fun j => if j = k then some v else f j

theorem MapK.lt {w : World} {T : Nat → Nat} {b n : Nat} {f : Nat → Option Value} (h : MapK w T b f n) : b < w.heap.size := by
  obtain ⟨es, clock, hb, _⟩ := h
  exact (Array.getElem?_eq_some_iff.1 hb).1
theorem MapK.made (w : World) (T : Nat → Nat) : MapK (w.alloc (.map #[] 0)) T w.heap.size (fun _ => none) 0 :=
  ⟨#[], 0, heap_alloc_new w _, rfl, by simp, by simp, by simp⟩
theorem MapK.of_block {w w' : World} {T : Nat → Nat} {b n : Nat} {f : Nat → Option Value} (h : MapK w T b f n) (hb : w'.heap[b]? = w.heap[b]?) : MapK w' T b f n := by
  obtain ⟨es, clock, hh, r⟩ := h
  exact ⟨es, clock, hb.trans hh, r⟩

theorem asking {w : World} {T : Nat → Nat} (ht : Tabs w T) {k : Nat} (hk : k < 3) : ∀ (l : List MapEntry) (i : Nat), (∀ x ∈ l, ∃ j, j < 3 ∧ x.key = kv T j) →
    ((Instr.findAsking 81 (kv T k) l i).run Yba.prog w = .ok none w ∧ ∀ x ∈ l, x.key ≠ kv T k) ∨ ∃ j e, (Instr.findAsking 81 (kv T k) l i).run Yba.prog w = .ok (some (i + j, e.val)) w ∧ l[j]? = some e ∧ e.key = kv T k
  | [], _, _ => .inl ⟨rfl, by simp⟩
  | e :: es, i, h => by
    obtain ⟨j, hj, hkey⟩ := h e (.head _)
    have heq := key_equal ht hk hj
    by_cases hkj : k = j
    · subst hkj
      refine .inr ⟨0, e, ?_, rfl, hkey⟩
      simp [Instr.findAsking, hkey, heq]
    · have hne : e.key ≠ kv T k := fun q => hkj (kv_inj ht hk hj (by rw [← q, hkey]))
      rcases asking ht hk es (i + 1) (fun x hx => h x (.tail _ hx)) with ⟨h1, h2⟩ | ⟨m, e', h1, h2, h3⟩
      · refine .inl ⟨by simp [Instr.findAsking, hkey, heq, hkj, h1], fun x hx => ?_⟩
        cases hx with
        | head => exact hne
        | tail _ hx => exact h2 x hx
      · exact .inr ⟨m + 1, e', by simp [Instr.findAsking, hkey, heq, hkj, h1]; omega, by simpa using h2, h3⟩

theorem finding {w : World} {T : Nat → Nat} (ht : Tabs w T) {k : Nat} (hk : k < 3) (l : List MapEntry) (h : ∀ x ∈ l, ∃ j, j < 3 ∧ x.key = kv T j) :
    ((Instr.findKey 81 (kv T k) l).run Yba.prog w = .ok none w ∧ ∀ x ∈ l, x.key ≠ kv T k) ∨ ∃ j e, (Instr.findKey 81 (kv T k) l).run Yba.prog w = .ok (some (j, e.val)) w ∧ l[j]? = some e ∧ e.key = kv T k := by
  cases l with
  | nil => exact .inl ⟨by simp [Instr.findKey, run_underlying Yba.underlying81, Instr.findNow], by simp⟩
  | cons e es =>
    have h0 : ∀ fs, Instr.findNow (.struct fs) (kv T k) (e :: es) 0 = none := fun fs => by simp [Instr.findNow, Instr.sameNow]
    have h1 : (Instr.findKey 81 (kv T k) (e :: es)).run Yba.prog w = (Instr.findAsking 81 (kv T k) (e :: es) 0).run Yba.prog w := by
      simp [Instr.findKey, run_underlying Yba.underlying81, h0]
    rw [h1]
    rcases asking ht hk (e :: es) 0 h with h2 | ⟨m, e', h2, h3, h4⟩
    · exact .inl h2
    · exact .inr ⟨m, e', by rw [h2]; simp, h3, h4⟩

theorem check_key (w : World) (T : Nat → Nat) (k : Nat) (e : Bool) (n : Nat) : (Instr.checkKey e (n + 1 + 1) 81 (kv T k)).run Yba.prog w = .ok () w := by
  unfold kv
  simp [Instr.checkKey, run_underlying Yba.underlying81, run_underlying Yba.underlying64, run_underlying Yba.underlying79, part, Yba.sizeOf64, Yba.isAgg64, Yba.sizeOf79, Yba.isAgg79]

theorem MapK.lookup {w : World} {T : Nat → Nat} {b n : Nat} {f : Nat → Option Value} (h : MapK w T b f n) (ht : Tabs w T) {t et : TypeId} (hu : Yba.prog.underlying t = some (.map 81 et)) {z : Value} (hz : (zeroValue et).run Yba.prog w = .ok z w) {k : Nat} (hk : k < 3) :
    (Instr.lookup t (.map (some b)) (kv T k) false).run Yba.prog w = .ok ((f k).getD z) w := by
  obtain ⟨es, clock, hb, hn, h1, h2, hnd⟩ := h
  have hkeys : ∀ x ∈ es.toList, ∃ j, j < 3 ∧ x.key = kv T j := fun x hx => by obtain ⟨j, hj, e, _⟩ := h1 x hx; exact ⟨j, hj, e⟩
  have hck := fun e => check_key w T k e 9998
  rcases finding ht hk es.toList hkeys with ⟨e1, e2⟩ | ⟨j, e0, e1, e2, e3⟩
  · have hf : f k = none := by
      cases hf : f k with
      | none => rfl
      | some v =>
        obtain ⟨e, he, hek⟩ := h2 k v hk hf
        exact absurd hek (e2 e he)
    rw [hf]
    simp only [Instr.lookup, Sem.run_bind, run_underlying hu, Result.andThen_ok, Sem.run_pure, MapKept.run_getObj_map hb]
    rw [hck]
    simp [e1, hz]
  · have hf : f k = some e0.val := by
      obtain ⟨k', hk', he, hv⟩ := h1 e0 (List.mem_of_getElem? e2)
      rw [kv_inj ht hk hk' (by rw [← e3, he])]
      exact hv
    rw [hf]
    simp only [Instr.lookup, Sem.run_bind, run_underlying hu, Result.andThen_ok, Sem.run_pure, MapKept.run_getObj_map hb]
    rw [hck]
    simp [e1]

theorem stays (T : Nat → Nat) (k : Nat) (n : Nat) : Instr.sameBits (n + 1) (kv T k) (kv T k) = true := by
  unfold kv
  simp [Instr.sameBits]
theorem run_stays (w : World) (T : Nat → Nat) (k : Nat) : (Instr.keyThatStays (kv T k) (kv T k)).run Yba.prog w = .ok (kv T k) w := by
  unfold Instr.keyThatStays
  rw [stays T k 9999]
  rfl

theorem map_keys (es : Array MapEntry) (j : Nat) (g : MapEntry → MapEntry) (hg : ∀ e, es[j]? = some e → (g e).key = e.key) : (es.modify j g).toList.map (·.key) = es.toList.map (·.key) := by
  apply List.ext_getElem?
  intro i
  simp only [List.getElem?_map, Array.getElem?_toList, Array.getElem?_modify]
  by_cases h : j = i
  · subst h
    cases he : es[j]? with
    | none => simp
    | some e => simp [hg e he]
  · simp [h]

theorem MapK.update {w : World} {T : Nat → Nat} {b n : Nat} {f : Nat → Option Value} (h : MapK w T b f n) (ht : Tabs w T) {t et : TypeId} (hu : Yba.prog.underlying t = some (.map 81 et)) {k : Nat} (hk : k < 3) (v : Value) :
    ∃ w', (Instr.mapUpdate t (.map (some b)) (kv T k) v).run Yba.prog w = .ok () w' ∧ MapK w' T b (kput f k v) (if (f k).isSome then n else n + 1) ∧ (∀ x, x ≠ b → w'.heap[x]? = w.heap[x]?) ∧ w'.heap.size = w.heap.size ∧ w'.tape = w.tape ∧ w'.os = w.os ∧ w'.output = w.output := by
  obtain ⟨es, clock, hb, hn, h1, h2, hnd⟩ := h
  have hkeys0 : ∀ x ∈ es.toList, ∃ j, j < 3 ∧ x.key = kv T j := fun x hx => by obtain ⟨j, hj, e, _⟩ := h1 x hx; exact ⟨j, hj, e⟩
  have hck := check_key w T k false 9998
  have grown : ∀ o, (∀ x, x ≠ b → (setBlock w b o).heap[x]? = w.heap[x]?) ∧ (setBlock w b o).heap.size = w.heap.size ∧ (setBlock w b o).tape = w.tape ∧ (setBlock w b o).os = w.os ∧ (setBlock w b o).output = w.output :=
    fun o => ⟨fun i hi => heap_setBlock_other hb _ hi, by simp [setBlock], rfl, rfl, rfl⟩
  rcases finding ht hk es.toList hkeys0 with ⟨e1, e2⟩ | ⟨j, e0, e1, e2, e3⟩
  · have hf : f k = none := by
      cases hf : f k with
      | none => rfl
      | some v =>
        obtain ⟨e, he, hek⟩ := h2 k v hk hf
        exact absurd hek (e2 e he)
    refine ⟨setBlock w b (.map (es.push ⟨kv T k, v, clock⟩) (clock + 1)), ?_, ⟨_, _, heap_setBlock_same hb _, by simp [hf, hn], ?_, ?_, ?_⟩, grown _⟩
    · simp only [Instr.mapUpdate, Sem.run_bind, run_underlying hu, Result.andThen_ok, MapKept.run_getObj_map hb]
      rw [hck]
      simp [e1, MapKept.run_setObj_map _ hb, setBlock]
    · intro x hx
      simp only [Array.toList_push, List.mem_append, List.mem_singleton] at hx
      rcases hx with hx | rfl
      · obtain ⟨k', hk', he, hv⟩ := h1 x hx
        refine ⟨k', hk', he, ?_⟩
        have : k' ≠ k := fun e => e2 x hx (by rw [he, e])
        simp [kput, this, hv]
      · exact ⟨k, hk, rfl, by simp [kput]⟩
    · intro k' v' hk' hv'
      by_cases hkk : k' = k
      · subst hkk
        exact ⟨⟨kv T k', v, clock⟩, by simp, rfl⟩
      · simp only [kput, hkk, if_false] at hv'
        obtain ⟨e, he, hek⟩ := h2 k' v' hk' hv'
        exact ⟨e, by simp [he], hek⟩
    · rw [Array.toList_push, List.map_append, List.nodup_append]
      refine ⟨hnd, by simp, ?_⟩
      intro a ha b' hb'
      obtain ⟨e, he, rfl⟩ := List.mem_map.1 ha
      simp at hb'
      subst hb'
      exact e2 e he
  · have hj : es[j]? = some e0 := by simpa using e2
    have hf : f k = some e0.val := by
      obtain ⟨k', hk', he, hv⟩ := h1 e0 (List.mem_of_getElem? e2)
      rw [kv_inj ht hk hk' (by rw [← e3, he])]
      exact hv
    have hkeys := map_keys es j (fun e' => { e' with key := kv T k, val := v }) (fun e' he' => by rw [hj] at he'; cases he'; exact e3.symm)
    refine ⟨setBlock w b (.map (es.modify j (fun e' => { e' with key := kv T k, val := v })) clock), ?_, ⟨_, _, heap_setBlock_same hb _, by simp [hf, hn], ?_, ?_, by rw [hkeys]; exact hnd⟩, grown _⟩
    · simp only [Instr.mapUpdate, Sem.run_bind, run_underlying hu, Result.andThen_ok, MapKept.run_getObj_map hb]
      rw [hck]
      simp [e1, hj, e3, run_stays, MapKept.run_setObj_map _ hb, setBlock]
    · intro x hx
      obtain ⟨i, hi⟩ := List.getElem?_of_mem hx
      rw [Array.getElem?_toList, Array.getElem?_modify] at hi
      by_cases hji : j = i
      · subst hji
        rw [if_pos rfl, hj] at hi
        simp at hi
        subst hi
        exact ⟨k, hk, rfl, by simp [kput]⟩
      · rw [if_neg hji] at hi
        have hx' : x ∈ es.toList := List.mem_of_getElem? (by rw [Array.getElem?_toList]; exact hi)
        obtain ⟨k', hk', he, hv⟩ := h1 x hx'
        refine ⟨k', hk', he, ?_⟩
        have : k' ≠ k := by
          intro e
          subst e
          have a1 : (es.toList.map (·.key))[i]? = some (kv T k') := by rw [List.getElem?_map, Array.getElem?_toList, hi]; simp [he]
          have a2 : (es.toList.map (·.key))[j]? = some (kv T k') := by rw [List.getElem?_map, Array.getElem?_toList, hj]; simp [e3]
          have hlt : i < (es.toList.map (·.key)).length := (List.getElem?_eq_some_iff.1 a1).1
          exact hji ((List.getElem?_inj hlt hnd).1 (a1.trans a2.symm)).symm
        simp [kput, this, hv]
    · intro k' v' hk' hv'
      have hex : ∃ e ∈ es.toList, e.key = kv T k' := by
        by_cases hkk : k' = k
        · subst hkk
          exact ⟨e0, List.mem_of_getElem? e2, e3⟩
        · simp only [kput, hkk, if_false] at hv'
          exact h2 k' v' hk' hv'
      obtain ⟨e, he, hek⟩ := hex
      have : (kv T k') ∈ (es.modify j (fun e' => { e' with key := kv T k, val := v })).toList.map (·.key) := by
        rw [hkeys]
        exact List.mem_map.2 ⟨e, he, hek⟩
      obtain ⟨e', he', hek'⟩ := List.mem_map.1 this
      exact ⟨e', he', hek'⟩

theorem MapK.len {w : World} {T : Nat → Nat} {b n : Nat} {f : Nat → Option Value} (h : MapK w T b f n) {t et : TypeId} (hu : Yba.prog.underlying t = some (.map 81 et)) (ty : TypeId) :
    (Builtin.len_ #[t] ty #[.map (some b)]).run Yba.prog w = .ok (.int .i64 n) w := by
  obtain ⟨es, clock, hb, hn, _⟩ := h
  subst hn
  simp [Builtin.len_, run_underlying hu, MapKept.run_getObj_map hb, goInt, Result.andThen]

end Go.Proofs.Ybulkbopq
