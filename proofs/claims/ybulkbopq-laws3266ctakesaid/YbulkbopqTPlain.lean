/-
  The plain side: a set by the function that it stands for.
-/
import Derived.Test.YbulkbopqTIns
namespace Go.Proofs.Ybulkbopq

theorem key_ge : ∀ (xs : List (Nat × Nat)) (b : Nat), xs.Pairwise (fun p q => p.1 < q.1) → (∀ q ∈ xs, b ≤ q.1) → ∀ i p, xs[i]? = some p → b + i ≤ p.1
  | [], _, _, _, i, p, h => by simp at h
  | x :: xs, b, hp, hb, 0, p, h => by
    simp only [List.getElem?_cons_zero, Option.some.injEq] at h
    subst h
    exact hb x (.head _)
  | x :: xs, b, hp, hb, i + 1, p, h => by
    rw [List.getElem?_cons_succ] at h
    have hx := hb x (.head _)
    have := key_ge xs (b + 1) (List.pairwise_cons.1 hp).2 (fun q hq => by have := (List.pairwise_cons.1 hp).1 q hq; omega) i p h
    omega

theorem Ord.len {xs : List (Nat × Nat)} (h : Ord xs) : xs.length ≤ 256 := by
  by_cases h0 : xs.length = 0
  · omega
  · obtain ⟨p, hp⟩ : ∃ p, xs[xs.length - 1]? = some p := ⟨_, List.getElem?_eq_getElem (by omega)⟩
    have h1 := key_ge xs 0 h.1 (fun q _ => Nat.zero_le _) _ p hp
    have h2 := h.2 p (List.mem_of_getElem? hp)
    omega

theorem Ord.nil : Ord [] := ⟨List.Pairwise.nil, fun p hp => by simp at hp⟩

theorem take_lt {xs : List (Nat × Nat)} (h : Ord xs) {k : Nat} {p : Nat × Nat} (hp : p ∈ xs.take (below xs k)) : p.1 < k := by
  obtain ⟨i, hi⟩ := List.getElem?_of_mem hp
  have hlt : i < below xs k := by have := (List.getElem?_eq_some_iff.1 hi).1; rw [List.length_take] at this; omega
  rw [List.getElem?_take_of_lt hlt] at hi
  exact (lt_below h k i p hi).1 hlt
theorem drop_ge {xs : List (Nat × Nat)} (h : Ord xs) {k : Nat} {p : Nat × Nat} (hp : p ∈ xs.drop (below xs k)) : k ≤ p.1 := by
  obtain ⟨i, hi⟩ := List.getElem?_of_mem hp
  rw [List.getElem?_drop] at hi
  by_cases hlt : p.1 < k
  · have := (lt_below h k _ p hi).2 hlt
    omega
  · omega

/-- The set xs stands for the function F. -/
def Rep (xs : List (Nat × Nat)) (F : Nat → Option Nat) : Prop := Ord xs ∧ ∀ k s, (k, s) ∈ xs ↔ F k = some s

/-- One key put in. -/
def upd (kp : Nat → Nat → Nat) (F : Nat → Option Nat) (k s : Nat) : Nat → Option Nat := fun j => if j = k then some (match F k with | none => s | some o => kp o s) else F j

theorem Rep.nil : Rep [] (fun _ => none) := ⟨Ord.nil, fun k s => by simp⟩

theorem Rep.ins {xs : List (Nat × Nat)} {F : Nat → Option Nat} (h : Rep xs F) (kp : Nat → Nat → Nat) (k s : Nat) (hk : k < 256) : Rep (ins kp xs k s) (upd kp F k s) := by
  obtain ⟨ho, hm⟩ := h
  rcases below_has ho k with ⟨hj, hne⟩ | ⟨hj, old, hget⟩
  · have hF : F k = none := by
      cases hF : F k with
      | none => rfl
      | some o => exact absurd rfl (hne (k, o) ((hm k o).2 hF))
    have hi : Ybulkbopq.ins kp xs k s = xs.take (below xs k) ++ (k, s) :: xs.drop (below xs k) := by unfold Ybulkbopq.ins; rw [if_pos hj]
    rw [hi]
    have hsplit : xs = xs.take (below xs k) ++ xs.drop (below xs k) := (List.take_append_drop _ _).symm
    refine ⟨⟨?_, fun p hp => ?_⟩, fun k' s' => ?_⟩
    · have hp0 := ho.1
      rw [hsplit, List.pairwise_append] at hp0
      rw [List.pairwise_append]
      refine ⟨hp0.1, List.pairwise_cons.2 ⟨fun q hq => ?_, hp0.2.1⟩, fun p hp q hq => ?_⟩
      · have h1 := drop_ge ho hq
        have h2 := hne q (List.mem_of_mem_drop hq)
        show k < q.1
        omega
      · have h1 := take_lt ho hp
        rcases List.mem_cons.1 hq with rfl | hq
        · exact h1
        · have := drop_ge ho hq
          omega
    · rcases List.mem_append.1 hp with hp | hp
      · exact ho.2 p (List.mem_of_mem_take hp)
      · rcases List.mem_cons.1 hp with rfl | hp
        · exact hk
        · exact ho.2 p (List.mem_of_mem_drop hp)
    · unfold upd
      rw [hF]
      by_cases e : k' = k
      · subst e
        rw [if_pos rfl, List.mem_append, List.mem_cons]
        constructor
        · rintro (hx | hx | hx)
          · exact absurd rfl (hne _ (List.mem_of_mem_take hx))
          · simp only [Prod.mk.injEq, true_and] at hx
            rw [hx]
          · exact absurd rfl (hne _ (List.mem_of_mem_drop hx))
        · intro hx
          simp only [Option.some.injEq] at hx
          rw [hx]
          exact .inr (.inl rfl)
      · rw [if_neg e, ← hm k' s', List.mem_append, List.mem_cons]
        constructor
        · rintro (hx | hx | hx)
          · exact List.mem_of_mem_take hx
          · simp only [Prod.mk.injEq] at hx
            exact absurd hx.1 e
          · exact List.mem_of_mem_drop hx
        · intro hx
          rw [hsplit, List.mem_append] at hx
          rcases hx with hx | hx
          · exact .inl hx
          · exact .inr (.inr hx)
  · have hF : F k = some old := (hm k old).1 (List.mem_of_getElem? hget)
    have hgd : xs.getD (below xs k) (0, 0) = (k, old) := by rw [List.getD_eq_getElem?_getD, hget]; rfl
    have hi : Ybulkbopq.ins kp xs k s = xs.set (below xs k) (k, kp old s) := by unfold Ybulkbopq.ins; rw [if_neg (by omega), hgd]
    have hlt : below xs k < xs.length := (List.getElem?_eq_some_iff.1 hget).1
    have hgl : xs[below xs k] = (k, old) := by
      rw [List.getElem?_eq_getElem hlt, Option.some.injEq] at hget
      exact hget
    rw [hi]
    have hkeys : ∀ (i : Nat) (p : Nat × Nat), (xs.set (below xs k) (k, kp old s))[i]? = some p → ∃ p' : Nat × Nat, xs[i]? = some p' ∧ p'.1 = p.1 := fun i p hp => by
      rw [List.getElem?_set] at hp
      by_cases e : below xs k = i
      · rw [if_pos e, if_pos (by omega)] at hp
        cases hp
        exact ⟨(k, old), by rw [← e]; exact hget, rfl⟩
      · rw [if_neg e] at hp
        exact ⟨p, hp, rfl⟩
    refine ⟨⟨?_, fun p hp => ?_⟩, fun k' s' => ?_⟩
    · rw [List.pairwise_iff_getElem]
      intro i j hi' hj' hij
      rw [List.length_set] at hi' hj'
      obtain ⟨p1, h1, e1⟩ := hkeys i _ (List.getElem?_eq_getElem (by rw [List.length_set]; exact hi'))
      obtain ⟨p2, h2, e2⟩ := hkeys j _ (List.getElem?_eq_getElem (by rw [List.length_set]; exact hj'))
      rw [← e1, ← e2]
      rw [List.getElem?_eq_getElem hi', Option.some.injEq] at h1
      rw [List.getElem?_eq_getElem hj', Option.some.injEq] at h2
      rw [← h1, ← h2]
      exact List.pairwise_iff_getElem.1 ho.1 i j hi' hj' hij
    · obtain ⟨i, hi'⟩ := List.getElem?_of_mem hp
      obtain ⟨p', h1, e1⟩ := hkeys i p hi'
      rw [← e1]
      exact ho.2 p' (List.mem_of_getElem? h1)
    · unfold upd
      rw [hF]
      by_cases e : k' = k
      · subst e
        rw [if_pos rfl]
        constructor
        · intro hx
          obtain ⟨i, hi'⟩ := List.getElem?_of_mem hx
          rw [List.getElem?_set] at hi'
          by_cases e2 : below xs k' = i
          · rw [if_pos e2, if_pos (by omega)] at hi'
            simp only [Option.some.injEq, Prod.mk.injEq, true_and] at hi'
            rw [← hi']
          · rw [if_neg e2] at hi'
            exact absurd (at_below ho hi') e2
        · intro hx
          simp only [Option.some.injEq] at hx
          rw [← hx]
          exact List.mem_of_getElem? (i := below xs k') (by rw [List.getElem?_set, if_pos rfl, if_pos hlt])
      · rw [if_neg e, ← hm k' s']
        constructor
        · intro hx
          obtain ⟨i, hi'⟩ := List.getElem?_of_mem hx
          rw [List.getElem?_set] at hi'
          by_cases e2 : below xs k = i
          · rw [if_pos e2, if_pos (by omega)] at hi'
            simp only [Option.some.injEq, Prod.mk.injEq] at hi'
            exact absurd hi'.1.symm e
          · rw [if_neg e2] at hi'
            exact List.mem_of_getElem? hi'
        · intro hx
          obtain ⟨i, hi'⟩ := List.getElem?_of_mem hx
          refine List.mem_of_getElem? (i := i) ?_
          rw [List.getElem?_set, if_neg (fun e2 => ?_)]
          · exact hi'
          · rw [← e2, hget] at hi'
            simp only [Option.some.injEq, Prod.mk.injEq] at hi'
            exact e hi'.1.symm

end Go.Proofs.Ybulkbopq
