/-
  The nine sets that take works on, and what one add leaves of them.
-/
import Derived.Test.YbulkbopqTMap
namespace Go.Proofs.Ybulkbopq
open Go.RowKit Go.Sort

theorem Out.cell {W W' : World} {sb so : Nat} {v v' : Value} {xs : List (Nat × Nat)} (h : Out W W' sb so v v' xs) {b o : Nat} {u : Value} (hc : W.cell? ⟨b, o, none⟩ = some u) (hne : b ≠ sb ∨ o ≠ so) (hov : v.ownBlock ≠ some b) : W'.cell? ⟨b, o, none⟩ = some u := by
  have hb : b < W.heap.size := World.block_lt_of_cell? _ _ hc
  by_cases e : b = sb
  · subst e
    have h1 : (W.setCell ⟨b, so, none⟩ v').cell? ⟨b, o, none⟩ = some u := by rw [cell_setCell_other (.inr (by rcases hne with h | h; exact absurd rfl h; exact h))]; exact hc
    rw [← h1]
    simp only [World.cell?, h.blk]
  · rw [← hc]
    simp only [World.cell?, h.chg.2.2.2.2 b hb (fun e' => by rcases e' with e' | e'; exact e e'; exact hov e')]
theorem Out.self {W W' : World} {sb so : Nat} {v v' u : Value} {xs : List (Nat × Nat)} (h : Out W W' sb so v v' xs) (hc : W.cell? ⟨sb, so, none⟩ = some u) : W'.cell? ⟨sb, so, none⟩ = some v' := by
  rw [← cell_setCell_same (v := v') hc]
  simp only [World.cell?, h.blk]
theorem Out.frozen {W W' : World} {sb so : Nat} {v v' : Value} {xs : List (Nat × Nat)} (h : Out W W' sb so v v' xs) {b o : Nat} (hb : b < W.heap.size) (hov : v.ownBlock ≠ some b) : W'.frozen? ⟨b, o, none⟩ = W.frozen? ⟨b, o, none⟩ := by
  by_cases e : b = sb
  · subst e
    have h1 : (W.setCell ⟨b, so, none⟩ v').frozen? ⟨b, o, none⟩ = W.frozen? ⟨b, o, none⟩ := by simp
    rw [← h1]
    simp only [World.frozen?, h.blk]
  · simp only [World.frozen?, h.chg.2.2.2.2 b hb (fun e' => by rcases e' with e' | e'; exact e e'; exact hov e')]
theorem Out.block {W W' : World} {sb so : Nat} {v v' : Value} {xs : List (Nat × Nat)} (h : Out W W' sb so v v' xs) {b : Nat} (hb : b < W.heap.size) (h1 : b ≠ sb) (hov : v.ownBlock ≠ some b) : W'.heap[b]? = W.heap[b]? :=
  h.chg.2.2.2.2 b hb (fun e' => by rcases e' with e' | e'; exact h1 e'; exact hov e')

/-- Where the sets' slices lie: 0 .. 2 the reads, 3 .. 5 the dooming ones, 6 .. 8 the epoch's. -/
def sAt (M S : Nat → Nat) (a : Nat) : Nat × Nat := if a < 3 then (M a, 2) else if a < 6 then (M (a - 3), 4) else (S (a - 6), 0)

/-- The sets that are there hold L; their rows lie in blocks of their own from Z on. -/
structure Sets (W : World) (Z : Nat) (M S : Nat → Nat) (lv : Nat → Bool) (L : Nat → List (Nat × Nat)) (V : Nat → Value) : Prop where
  cell : ∀ a, a < 9 → lv a = true → W.cell? ⟨(sAt M S a).1, (sAt M S a).2, none⟩ = some (V a)
  froz : ∀ a, a < 9 → lv a = true → W.frozen? ⟨(sAt M S a).1, (sAt M S a).2, none⟩ = false
  own : ∀ a, a < 9 → lv a = true → Own W (V a) (L a)
  base : ∀ a x, a < 9 → lv a = true → (V a).ownBlock = some x → Z ≤ x
  apart : ∀ a b x, a < 9 → b < 9 → lv a = true → lv b = true → (V a).ownBlock = some x → (V b).ownBlock = some x → a = b
  off : ∀ a b x, a < 9 → b < 9 → lv a = true → lv b = true → (V a).ownBlock = some x → x ≠ (sAt M S b).1
  inj : ∀ a b, a < 9 → b < 9 → lv a = true → lv b = true → sAt M S a = sAt M S b → a = b

def lupd (L : Nat → List (Nat × Nat)) (a : Nat) (xs : List (Nat × Nat)) : Nat → List (Nat × Nat) := fun b => if b = a then xs else L b

/-- One add on the set a. -/
theorem Sets.add {W W' : World} {Z : Nat} {M S : Nat → Nat} {lv : Nat → Bool} {L : Nat → List (Nat × Nat)} {V : Nat → Value} (h : Sets W Z M S lv L V) {a : Nat} (ha : a < 9) (hl : lv a = true) (hZ : Z ≤ W.heap.size) {v' : Value} {xs : List (Nat × Nat)}
    (ho : Out W W' (sAt M S a).1 (sAt M S a).2 (V a) v' xs) : Sets W' Z M S lv (lupd L a xs) (fun b => if b = a then v' else V b) := by
  have hcell : ∀ b, b < 9 → lv b = true → b ≠ a → W'.cell? ⟨(sAt M S b).1, (sAt M S b).2, none⟩ = some (V b) := fun b hb hlb hba =>
    ho.cell (h.cell b hb hlb) (by
      by_cases e1 : (sAt M S b).1 = (sAt M S a).1
      · by_cases e2 : (sAt M S b).2 = (sAt M S a).2
        · exact absurd (h.inj b a hb ha hlb hl (Prod.ext e1 e2)) hba
        · exact .inr e2
      · exact .inl e1) (fun e => h.off a b _ ha hb hl hlb e rfl)
  have hnew : ∀ x, v'.ownBlock = some x → Z ≤ x ∧ ((V a).ownBlock = some x ∨ W.heap.size ≤ x) := fun x hx => by
    rcases ho.at' with e | ⟨y, e, hy⟩
    · rw [e] at hx
      exact ⟨h.base a x ha hl hx, .inl hx⟩
    · rw [e] at hx
      cases hx
      exact ⟨by omega, .inr hy⟩
  have hlt : ∀ b, b < 9 → lv b = true → (sAt M S b).1 < W.heap.size := fun b hb hlb => World.block_lt_of_cell? _ _ (h.cell b hb hlb)
  refine ⟨fun b hb hlb => ?_, fun b hb hlb => ?_, fun b hb hlb => ?_, fun b x hb hlb hx => ?_, fun b c x hb hc hlb hlc hx hy => ?_, fun b c x hb hc hlb hlc hx => ?_, h.inj⟩
  · by_cases e : b = a
    · subst e; rw [if_pos rfl]; exact ho.self (h.cell b hb hlb)
    · rw [if_neg e]; exact hcell b hb hlb e
  · rw [ho.frozen (hlt b hb hlb) (fun e => h.off a b _ ha hb hl hlb e rfl)]
    exact h.froz b hb hlb
  · unfold lupd
    by_cases e : b = a
    · rw [if_pos e, if_pos e]; exact ho.own
    · rw [if_neg e, if_neg e]
      refine (h.own b hb hlb).of_heap fun g hg => ho.block ((h.own b hb hlb).lt hg) (fun e' => h.off b a g hb ha hlb hl hg e') (fun e' => e (h.apart b a g hb ha hlb hl hg e'))
  · by_cases e : b = a
    · rw [if_pos e] at hx; exact (hnew x hx).1
    · rw [if_neg e] at hx; exact h.base b x hb hlb hx
  · by_cases e : b = a
    · by_cases e2 : c = a
      · omega
      · rw [if_pos e] at hx
        rw [if_neg e2] at hy
        rcases (hnew x hx).2 with h1 | h1
        · exact absurd (h.apart a c x ha hc hl hlc h1 hy) (fun e3 => e2 e3.symm)
        · have := (h.own c hc hlc).lt hy; omega
    · by_cases e2 : c = a
      · rw [if_neg e] at hx
        rw [if_pos e2] at hy
        rcases (hnew x hy).2 with h1 | h1
        · exact absurd (h.apart a b x ha hb hl hlb h1 hx) (fun e3 => e e3.symm)
        · have := (h.own b hb hlb).lt hx; omega
      · rw [if_neg e] at hx
        rw [if_neg e2] at hy
        exact h.apart b c x hb hc hlb hlc hx hy
  · by_cases e : b = a
    · rw [if_pos e] at hx
      rcases (hnew x hx).2 with h1 | h1
      · exact h.off a c x ha hc hl hlc h1
      · have := hlt c hc hlc; omega
    · rw [if_neg e] at hx
      exact h.off b c x hb hc hlb hlc hx

/-- Where only blocks turn in which no set lies, and of those no cell of a slice. -/
theorem Sets.keep {W W' : World} {Z : Nat} {M S : Nat → Nat} {lv : Nat → Bool} {L : Nat → List (Nat × Nat)} {V : Nat → Value} (h : Sets W Z M S lv L V)
    (hc : ∀ a, a < 9 → lv a = true → W'.cell? ⟨(sAt M S a).1, (sAt M S a).2, none⟩ = W.cell? ⟨(sAt M S a).1, (sAt M S a).2, none⟩ ∧ W'.frozen? ⟨(sAt M S a).1, (sAt M S a).2, none⟩ = W.frozen? ⟨(sAt M S a).1, (sAt M S a).2, none⟩)
    (hb : ∀ a x, a < 9 → lv a = true → (V a).ownBlock = some x → W'.heap[x]? = W.heap[x]?) : Sets W' Z M S lv L V :=
  ⟨fun a ha hl => by rw [(hc a ha hl).1]; exact h.cell a ha hl, fun a ha hl => by rw [(hc a ha hl).2]; exact h.froz a ha hl, fun a ha hl => (h.own a ha hl).of_heap fun g hg => hb a g ha hl hg, h.base, h.apart, h.off, h.inj⟩

theorem Sets.gr {W W' : World} {Z : Nat} {M S : Nat → Nat} {lv : Nat → Bool} {L : Nat → List (Nat × Nat)} {V : Nat → Value} (h : Sets W Z M S lv L V) (hg : Gr W W') : Sets W' Z M S lv L V :=
  h.keep (fun a ha hl => by
    have hb : (sAt M S a).1 < W.heap.size := World.block_lt_of_cell? _ _ (h.cell a ha hl)
    exact ⟨hg.cell hb, by simp only [World.frozen?, hg.block hb]⟩) (fun a x ha hl hx => hg.block ((h.own a ha hl).lt hx))

end Go.Proofs.Ybulkbopq
