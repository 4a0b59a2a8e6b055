/-
  A set's row, owned: what append, copy and a store leave of it.
-/
import Derived.Test.YbulkbopqTShare
import Derived.Laws.OwnMore
import Derived.Laws.IdiomCopy
import Derived.Laws.CopyOwn
import Derived.Maps.AppendAt
namespace Go.Proofs.Ybulkbopq
open Go.RowKit Go.Sort

/-- The cells of one element. -/
def pc (k s : Nat) : List Value := [.bool false, .int .i64 (k : Nat), .slice none 0 0, .bool false, .int .i64 (k : Nat), .slice none 0 0, .bool false, .bool false, .bool false, .bool false, .int .u64 (s : Nat)]
theorem pc_len (k s : Nat) : (pc k s).length = 11 := rfl
def flat (xs : List (Nat × Nat)) : List Value := xs.flatMap fun p => pc p.1 p.2
theorem flat_cons (p : Nat × Nat) (xs : List (Nat × Nat)) : flat (p :: xs) = pc p.1 p.2 ++ flat xs := rfl
theorem flat_append (xs ys : List (Nat × Nat)) : flat (xs ++ ys) = flat xs ++ flat ys := by simp [flat]
theorem flat_len : ∀ xs : List (Nat × Nat), (flat xs).length = xs.length * 11
  | [] => rfl
  | p :: r => by rw [flat_cons, List.length_append, flat_len r, pc_len, List.length_cons]; omega
theorem flat_get : ∀ (xs : List (Nat × Nat)) (i : Nat) (p : Nat × Nat) (j : Nat), xs[i]? = some p → j < 11 → (flat xs)[i * 11 + j]? = (pc p.1 p.2)[j]?
  | [], i, p, j, h, _ => by simp at h
  | q :: r, 0, p, j, h, hj => by
    simp only [List.getElem?_cons_zero, Option.some.injEq] at h
    subst h
    rw [flat_cons, Nat.zero_mul, Nat.zero_add, List.getElem?_append_left (by rw [pc_len]; exact hj)]
  | q :: r, i + 1, p, j, h, hj => by
    rw [List.getElem?_cons_succ] at h
    rw [flat_cons, List.getElem?_append_right (by rw [pc_len]; omega), pc_len, show (i + 1) * 11 + j - 11 = i * 11 + j by omega]
    exact flat_get r i p j h hj
theorem flat_one (xs : List (Nat × Nat)) : ∀ u ∈ flat xs, u.oneCell' = true := by
  intro u hu
  obtain ⟨p, _, hp⟩ := List.mem_flatMap.1 hu
  simp only [pc, List.mem_cons, List.not_mem_nil, or_false] at hp
  rcases hp with rfl | rfl | rfl | rfl | rfl | rfl | rfl | rfl | rfl | rfl | rfl <;> rfl
theorem pc_one (k s : Nat) : ∀ u ∈ pc k s, u.oneCell' = true := by
  have := flat_one [(k, s)]
  simpa [flat] using this

/-- The slice v owns the set xs. -/
def Own (w : World) (v : Value) (xs : List (Nat × Nat)) : Prop := w.ownsRow 0 138 11 v xs.length (flat xs)

theorem info138 : ∃ i, Yba.prog.info? 138 = some i ∧ i.zero = some (.agg (pc 0 0).toArray) ∧ i.size = 11 ∧ i.bytes = 96 := by
  have h : (Yba.prog.info? 138).map (fun i => (i.zero, i.size, i.bytes)) = some (some (.agg (pc 0 0).toArray), 11, 96) := by kernel_rfl
  obtain ⟨i, hi, e⟩ := Option.map_eq_some_iff.1 h
  simp only [Prod.mk.injEq] at e
  exact ⟨i, hi, e.1, e.2.1, e.2.2⟩

theorem Own.form {w : World} {v : Value} {xs : List (Nat × Nat)} (h : Own w v xs) (h0 : 0 < xs.length) : ∃ g cap, v = .slice (some ⟨g, 0, none⟩) xs.length cap ∧ xs.length ≤ cap ∧ cap ≤ maxLen := by
  rcases h.2 with ⟨_, h1⟩ | ⟨g, cap, cur, rfl, _, _, h1, h2, _⟩
  · omega
  · exact ⟨g, cap, rfl, h1, h2⟩

theorem Own.shape {w : World} {v : Value} {xs : List (Nat × Nat)} (h : Own w v xs) : ∃ a cap, v = .slice a xs.length cap ∧ xs.length ≤ cap ∧ cap ≤ maxLen ∧ (a = none → cap = 0) ∧ ∀ x, a = some x → x = ⟨x.block, 0, none⟩ := by
  rcases h.2 with ⟨rfl, h1⟩ | ⟨g, cap, cur, rfl, _, _, h1, h2, _⟩
  · exact ⟨none, 0, by rw [h1], by omega, by simp [maxLen], fun _ => rfl, by simp⟩
  · exact ⟨_, cap, rfl, h1, h2, by simp, fun x hx => by cases hx; rfl⟩

theorem Own.rd {w : World} {v : Value} {xs : List (Nat × Nat)} (h : Own w v xs) : ∃ g, Rd w g v xs := by
  rcases h.2 with ⟨rfl, h1⟩ | ⟨g, cap, cur, rfl, r⟩
  · refine ⟨0, ⟨none, 0, by rw [h1], fun h0 => by omega⟩, fun i p hp => ?_⟩
    rw [List.eq_nil_of_length_eq_zero h1] at hp
    simp at hp
  · refine ⟨g, ⟨_, cap, rfl, fun _ => rfl⟩, fun i p hp => ?_⟩
    have h' : w.ownsRow 0 138 11 (.slice (some ⟨g, 0, none⟩) xs.length cap) xs.length (flat xs) := h
    have hlt := (List.getElem?_eq_some_iff.1 hp).1
    have c : ∀ j, j < 11 → w.cell? ⟨g, i * 11 + j, none⟩ = (pc p.1 p.2)[j]? := fun j hj => by
      rw [h'.cellAt (i * 11 + j) (by omega), flat_get xs i p j hp hj]
    exact ⟨⟨c 0 (by omega), c 1 (by omega), c 2 (by omega), c 3 (by omega), c 4 (by omega), c 5 (by omega), c 6 (by omega), c 7 (by omega), c 8 (by omega), c 9 (by omega)⟩, c 10 (by omega)⟩

theorem Own.of_heap {w w' : World} {v : Value} {xs : List (Nat × Nat)} (h : Own w v xs) (hh : ∀ g, v.ownBlock = some g → w'.heap[g]? = w.heap[g]?) : Own w' v xs := by
  refine ⟨h.1, ?_⟩
  rcases h.2 with h2 | ⟨g, cap, cur, rfl, hb, hg, r⟩
  · exact .inl h2
  · exact .inr ⟨g, cap, cur, rfl, hb, by rw [hh g rfl]; exact hg, r⟩
theorem Own.lt {w : World} {v : Value} {xs : List (Nat × Nat)} (h : Own w v xs) {g : Nat} (hg : v.ownBlock = some g) : g < w.heap.size := (World.ownsRow.lt h g hg).2
theorem Own.gr {w w' : World} {v : Value} {xs : List (Nat × Nat)} (h : Own w v xs) (hg : Gr w w') : Own w' v xs := h.of_heap fun _ e => hg.block (h.lt e)

theorem splice_get {α : Type} (L : List α) (o : Nat) (cs : List α) (h : o + cs.length ≤ L.length) (j : Nat) : (splice L o cs)[j]? = if o ≤ j ∧ j < o + cs.length then cs[j - o]? else L[j]? := by
  unfold splice
  rw [List.getElem?_append, List.length_take, Nat.min_eq_left (by omega)]
  by_cases h1 : j < o
  · rw [if_pos h1, if_neg (by omega), List.getElem?_take_of_lt h1]
  · rw [if_neg h1, List.getElem?_append]
    by_cases h2 : j - o < cs.length
    · rw [if_pos h2, if_pos ⟨by omega, by omega⟩]
    · rw [if_neg h2, if_neg (by omega), List.getElem?_drop]
      congr 1
      omega

/-- Cells laid over an owned row. -/
theorem own_setCells {w : World} {g n cap : Nat} {L : List Value} (h : w.ownsRow 0 138 11 (.slice (some ⟨g, 0, none⟩) n cap) n L) : ∀ (cs : List Value) (o : Nat), o + cs.length ≤ n * 11 →
    (w.setCells g o cs).ownsRow 0 138 11 (.slice (some ⟨g, 0, none⟩) n cap) n (splice L o cs)
  | [], o, _ => by simpa [splice, World.setCells] using h
  | u :: r, o, hl => by
    simp only [List.length_cons] at hl
    rw [World.setCells]
    have h1 := (h.stored o u).1
    have := own_setCells h1 r (o + 1) (by omega)
    have e : splice (L.set o u) (o + 1) r = splice L o (u :: r) := by
      have hL : L.length = n * 11 := h.1
      apply List.ext_getElem?
      intro j
      rw [splice_get _ _ _ (by rw [List.length_set]; omega), splice_get _ _ _ (by simp only [List.length_cons]; omega), List.getElem?_set, List.length_cons]
      by_cases hj : o = j
      · subst hj
        rw [if_neg (by omega), if_pos rfl, if_pos (by omega), if_pos ⟨by omega, by omega⟩, Nat.sub_self, List.getElem?_cons_zero]
      · by_cases hj3 : o + 1 ≤ j ∧ j < o + 1 + r.length
        · rw [if_pos hj3, if_pos ⟨by omega, by omega⟩, show j - o = (j - (o + 1)) + 1 by omega, List.getElem?_cons_succ]
        · rw [if_neg hj3, if_neg hj, if_neg (by omega)]
    rw [e] at this
    exact this

end Go.Proofs.Ybulkbopq
