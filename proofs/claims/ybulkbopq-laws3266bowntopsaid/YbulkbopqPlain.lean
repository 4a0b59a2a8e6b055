/-
  Plain: parents and tops; four statuses in a byte. No walk.
-/
import Derived.WalkKit
namespace Go.Proofs.Ybulkbopq.Pl
open Go

/-- The parents that the links lay: the last link of a child whose parent is below it. -/
def par (ls : List (Nat × Nat)) (i : Nat) : Option Nat := ls.foldl (fun acc l => if l.2 < l.1 ∧ l.1 = i then some l.2 else acc) none

theorem par_snoc (ls : List (Nat × Nat)) (l : Nat × Nat) (i : Nat) : par (ls ++ [l]) i = if l.2 < l.1 ∧ l.1 = i then some l.2 else par ls i := by
  simp [par]

theorem par_lt (ls : List (Nat × Nat)) (i p : Nat) (h : par ls i = some p) : p < i := by
  have aux : ∀ (ls : List (Nat × Nat)) (acc : Option Nat), (∀ q, acc = some q → q < i) → ∀ q, ls.foldl (fun acc l => if l.2 < l.1 ∧ l.1 = i then some l.2 else acc) acc = some q → q < i := by
    intro ls
    induction ls with
    | nil => intro acc ha q hq; exact ha q hq
    | cons l r ih =>
      intro acc ha q hq
      rw [List.foldl_cons] at hq
      refine ih _ ?_ q hq
      intro q' hq'
      split at hq'
      · rename_i hc
        cases hq'
        omega
      · exact ha q' hq'
  exact aux ls none (by simp) p h

def topF (P : Nat → Option Nat) : Nat → Nat → Nat
  | 0, i => i
  | f + 1, i => match P i with
    | none => i
    | some p => topF P f p

theorem topF_fuel (P : Nat → Option Nat) (hP : ∀ i p, P i = some p → p < i) : ∀ n f g i, i < n → i < f → i < g → topF P f i = topF P g i
  | 0, _, _, _, h, _, _ => absurd h (by omega)
  | n + 1, f, g, i, hn, hf, hg => by
    obtain ⟨f, rfl⟩ : ∃ f', f = f' + 1 := ⟨f - 1, by omega⟩
    obtain ⟨g, rfl⟩ : ∃ g', g = g' + 1 := ⟨g - 1, by omega⟩
    simp only [topF]
    cases hp : P i with
    | none => rfl
    | some p =>
      have := hP i p hp
      exact topF_fuel P hP n f g p (by omega) (by omega) (by omega)

/-- The end of the chain of parents. -/
def top (P : Nat → Option Nat) (i : Nat) : Nat := topF P (i + 1) i

theorem top_none {P : Nat → Option Nat} {i : Nat} (h : P i = none) : top P i = i := by simp [top, topF, h]
theorem top_some {P : Nat → Option Nat} (hP : ∀ i p, P i = some p → p < i) {i p : Nat} (h : P i = some p) : top P i = top P p := by
  have := hP i p h
  show topF P (i + 1) i = topF P (p + 1) p
  rw [topF, h]
  exact topF_fuel P hP (p + 1) i (p + 1) p (by omega) (by omega) (by omega)
theorem top_le {P : Nat → Option Nat} (hP : ∀ i p, P i = some p → p < i) : ∀ n i, i < n → top P i ≤ i
  | 0, _, h => absurd h (by omega)
  | n + 1, i, h => by
    cases hp : P i with
    | none => rw [top_none hp]; omega
    | some p =>
      have := hP i p hp
      have := top_le hP n p (by omega)
      rw [top_some hP hp]
      omega

/-- Four digits in a byte. -/
def pk (s : Nat → Nat) (j : Nat) : Nat := s (4 * j) + 4 * s (4 * j + 1) + 16 * s (4 * j + 2) + 64 * s (4 * j + 3)
/-- The first k digits. -/
def dg (s : Nat → Nat) (k i : Nat) : Nat := if i < k then s i % 4 else 0
theorem dg_lt (s : Nat → Nat) (k i : Nat) : dg s k i < 4 := by unfold dg; split <;> omega
theorem pk_lt (s : Nat → Nat) (k j : Nat) : pk (dg s k) j < 256 := by
  have h0 := dg_lt s k (4 * j); have h1 := dg_lt s k (4 * j + 1); have h2 := dg_lt s k (4 * j + 2); have h3 := dg_lt s k (4 * j + 3)
  unfold pk; omega

theorem dg_at (s : Nat → Nat) (k : Nat) : dg s (k + 1) k = s k % 4 ∧ dg s k k = 0 := by simp [dg]
theorem dg_other (s : Nat → Nat) (k i : Nat) (h : i ≠ k) : dg s (k + 1) i = dg s k i := by
  unfold dg
  by_cases h1 : i < k
  · rw [if_pos (by omega), if_pos h1]
  · rw [if_neg (by omega), if_neg h1]
theorem dg_over (s : Nat → Nat) (k i : Nat) (h : k ≤ i) : dg s k i = 0 := by simp [dg, Nat.not_lt.2 h]
theorem pk_none (s : Nat → Nat) (j : Nat) : pk (dg s 0) j = 0 := by simp [pk, dg]

theorem pk_other (s : Nat → Nat) (k j : Nat) (h : j ≠ k / 4) : pk (dg s (k + 1)) j = pk (dg s k) j := by
  unfold pk
  rw [dg_other s k _ (by omega), dg_other s k _ (by omega), dg_other s k _ (by omega), dg_other s k _ (by omega)]

theorem pk_step (s : Nat → Nat) (k : Nat) : pk (dg s k) (k / 4) < 4 ^ (k % 4) ∧ pk (dg s (k + 1)) (k / 4) = pk (dg s k) (k / 4) + (s k % 4) * 4 ^ (k % 4) := by
  have h4 : k % 4 < 4 := Nat.mod_lt _ (by omega)
  have hk : k = 4 * (k / 4) + k % 4 := by omega
  generalize k / 4 = j at hk ⊢
  generalize k % 4 = r at hk h4 ⊢
  have l0 := dg_lt s k (4 * j); have l1 := dg_lt s k (4 * j + 1); have l2 := dg_lt s k (4 * j + 2); have l3 := dg_lt s k (4 * j + 3)
  obtain ⟨a1, a2⟩ := dg_at s k
  unfold pk
  have hr : r = 0 ∨ r = 1 ∨ r = 2 ∨ r = 3 := by omega
  rcases hr with rfl | rfl | rfl | rfl
  · have e : 4 * j = k := by omega
    rw [dg_over s k (4 * j + 1) (by omega), dg_over s k (4 * j + 2) (by omega), dg_over s k (4 * j + 3) (by omega), dg_over s k (4 * j) (by omega), dg_other s k (4 * j + 1) (by omega), dg_other s k (4 * j + 2) (by omega), dg_other s k (4 * j + 3) (by omega), dg_over s k (4 * j + 1) (by omega), dg_over s k (4 * j + 2) (by omega), dg_over s k (4 * j + 3) (by omega), e, a1]
    omega
  · have e : 4 * j + 1 = k := by omega
    rw [dg_over s k (4 * j + 1) (by omega), dg_over s k (4 * j + 2) (by omega), dg_over s k (4 * j + 3) (by omega), dg_other s k (4 * j) (by omega), dg_other s k (4 * j + 2) (by omega), dg_other s k (4 * j + 3) (by omega), dg_over s k (4 * j + 2) (by omega), dg_over s k (4 * j + 3) (by omega), e, a1]
    omega
  · have e : 4 * j + 2 = k := by omega
    rw [dg_over s k (4 * j + 2) (by omega), dg_over s k (4 * j + 3) (by omega), dg_other s k (4 * j) (by omega), dg_other s k (4 * j + 1) (by omega), dg_other s k (4 * j + 3) (by omega), dg_over s k (4 * j + 3) (by omega), e, a1]
    omega
  · have e : 4 * j + 3 = k := by omega
    rw [dg_over s k (4 * j + 3) (by omega), dg_other s k (4 * j) (by omega), dg_other s k (4 * j + 1) (by omega), dg_other s k (4 * j + 2) (by omega), e, a1]
    omega

theorem pk_read (s : Nat → Nat) (k i : Nat) : pk (dg s k) (i / 4) / 4 ^ (i % 4) % 4 = dg s k i := by
  have h4 : i % 4 < 4 := Nat.mod_lt _ (by omega)
  have hk : i = 4 * (i / 4) + i % 4 := by omega
  generalize i / 4 = j at hk ⊢
  generalize i % 4 = r at hk h4 ⊢
  have l0 := dg_lt s k (4 * j); have l1 := dg_lt s k (4 * j + 1); have l2 := dg_lt s k (4 * j + 2); have l3 := dg_lt s k (4 * j + 3)
  unfold pk
  have hr : r = 0 ∨ r = 1 ∨ r = 2 ∨ r = 3 := by omega
  rcases hr with rfl | rfl | rfl | rfl <;> subst hk <;> (try simp only [Nat.add_zero]) <;> omega

end Go.Proofs.Ybulkbopq.Pl
