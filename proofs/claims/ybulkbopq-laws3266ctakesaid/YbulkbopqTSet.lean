/-
  A set of keys in order, by its list; where a key stands in it.
-/
import Derived.Test.YbulkbopqTKey
import Derived.Shelf.SlSorted.Search
import Derived.Shelf.Lay
import Derived.Ground.SlsoProg
namespace Go.Proofs.Ybulkbopq
open Go.RowKit Go.Sort Go.Shelf Go.Lib

shelf_lay SlLaysO.n16 Slso 16 at Yba as Yba.search

/-- How many keys of the list lie below k. -/
def below (xs : List (Nat × Nat)) (k : Nat) : Nat := xs.countP fun p => decide (p.1 < k)

/-- The list is in order, its keys bytes. -/
def Ord (xs : List (Nat × Nat)) : Prop := xs.Pairwise (fun p q => p.1 < q.1) ∧ ∀ p ∈ xs, p.1 < 256

theorem below_cons (p : Nat × Nat) (xs : List (Nat × Nat)) (k : Nat) : below (p :: xs) k = below xs k + if p.1 < k then 1 else 0 := by
  simp [below, List.countP_cons]
theorem below_nil (k : Nat) : below [] k = 0 := rfl
theorem below_le (xs : List (Nat × Nat)) (k : Nat) : below xs k ≤ xs.length := List.countP_le_length

theorem Ord.tail {p : Nat × Nat} {xs : List (Nat × Nat)} (h : Ord (p :: xs)) : Ord xs := ⟨(List.pairwise_cons.1 h.1).2, fun q hq => h.2 q (.tail _ hq)⟩
theorem Ord.head {p : Nat × Nat} {xs : List (Nat × Nat)} (h : Ord (p :: xs)) : ∀ q ∈ xs, p.1 < q.1 := (List.pairwise_cons.1 h.1).1

theorem below_zero {xs : List (Nat × Nat)} {k : Nat} (h : ∀ q ∈ xs, k ≤ q.1) : below xs k = 0 := by
  unfold below
  rw [List.countP_eq_zero]
  intro a ha
  have := h a ha
  simp
  omega

/-- A place lies below the count just where its key lies below. -/
theorem lt_below : ∀ {xs : List (Nat × Nat)}, Ord xs → ∀ (k i : Nat) (p : Nat × Nat), xs[i]? = some p → (i < below xs k ↔ p.1 < k)
  | [], _, _, i, p, h => by simp at h
  | x :: xs, ho, k, 0, p, h => by
    simp only [List.getElem?_cons_zero, Option.some.injEq] at h
    subst h
    rw [below_cons]
    by_cases hx : x.1 < k
    · simp [hx]
    · rw [below_zero (fun q hq => by have := ho.head q hq; omega)]
      simp [hx]
  | x :: xs, ho, k, i + 1, p, h => by
    rw [List.getElem?_cons_succ] at h
    have ih := lt_below ho.tail k i p h
    have hm := ho.head p (List.mem_of_getElem? h)
    rw [below_cons]
    by_cases hx : x.1 < k
    · rw [if_pos hx]
      omega
    · rw [if_neg hx, below_zero (fun q hq => by have := ho.head q hq; omega)]
      constructor
      · intro h0; omega
      · intro h0; omega

/-- Where the key stands. -/
theorem at_below {xs : List (Nat × Nat)} (ho : Ord xs) {i : Nat} {p : Nat × Nat} (h : xs[i]? = some p) : below xs p.1 = i := by
  have h1 := (lt_below ho p.1 i p h)
  have hi : i < xs.length := (List.getElem?_eq_some_iff.1 h).1
  have h2 : ¬ i < below xs p.1 := by rw [h1]; omega
  have h3 : ¬ below xs p.1 < i := by
    intro hlt
    obtain ⟨q, hq⟩ : ∃ q, xs[below xs p.1]? = some q := ⟨_, List.getElem?_eq_getElem (by omega)⟩
    have h4 := lt_below ho p.1 _ q hq
    have h5 : q.1 < p.1 := by
      have := List.pairwise_iff_getElem.1 ho.1 (below xs p.1) i (by omega) hi hlt
      rw [List.getElem?_eq_getElem (by omega), Option.some.injEq] at hq
      rw [List.getElem?_eq_getElem hi, Option.some.injEq] at h
      rw [hq, h] at this
      exact this
    have := h4.2 h5
    omega
  omega

theorem countP_range_get (xs : List (Nat × Nat)) (f : Nat × Nat → Bool) : (List.range xs.length).countP (fun i => f (xs.getD i (0, 0))) = xs.countP f := by
  have h : (List.range xs.length).map (fun i => xs.getD i (0, 0)) = xs := by
    apply List.ext_getElem?
    intro i
    rw [List.getElem?_map]
    by_cases hi : i < xs.length
    · rw [List.getElem?_range hi]
      simp [List.getD_eq_getElem?_getD, List.getElem?_eq_getElem hi]
    · rw [List.getElem?_eq_none (by simpa using hi), List.getElem?_eq_none (by omega)]
      rfl
  conv => rhs; rw [← h]
  rw [List.countP_map]
  rfl

end Go.Proofs.Ybulkbopq
