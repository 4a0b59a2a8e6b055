/-
  What stands while take runs.
-/
import Derived.Test.YbulkbopqTState
namespace Go.Proofs.Ybulkbopq
open Go.RowKit Go.Sort

structure Tk (w0 W : World) (T M S : Nat → Nat) (mE : Nat) (lv : Nat → Bool) (L : Nat → List (Nat × Nat)) (V : Nat → Value) (lr : Nat → Nat) (cnt : Nat) : Prop where
  sets : Sets W w0.heap.size M S lv L V
  low : ∀ a, a < 6 → lv a = true
  marks : ∀ j, j < 3 → W.cell? ⟨M j, 0, none⟩ = some (.slice none 0 0) ∧ W.cell? ⟨M j, 1, none⟩ = some (.slice none 0 0) ∧ W.cell? ⟨M j, 3, none⟩ = some (.int .u64 (lr j : Nat)) ∧ W.frozen? ⟨M j, 3, none⟩ = false
  mapE : MapK W T mE (fun j => if lv (6 + j) = true then some (.pointer (some ⟨S j, 0, none⟩)) else none) cnt
  offE : ∀ a, a < 9 → lv a = true → (sAt M S a).1 ≠ mE ∧ (V a).ownBlock ≠ some mE
  chg : Chg w0 W (fun x => x = mE ∨ ∃ j, j < 3 ∧ x = M j)
  ml : ∀ j, j < 3 → M j < w0.heap.size ∧ M j ≠ mE
  sge : ∀ j, j < 3 → lv (6 + j) = true → w0.heap.size ≤ S j

variable {w0 W W' : World} {T M S : Nat → Nat} {mE : Nat} {lv : Nat → Bool} {L : Nat → List (Nat × Nat)} {V : Nat → Value} {lr : Nat → Nat} {cnt : Nat}

theorem Tk.fix (h : Tk w0 W T M S mE lv L V lr cnt) {x : Nat} (hx : x < w0.heap.size) (h1 : x ≠ mE) (h2 : ∀ j, j < 3 → x ≠ M j) : W.heap[x]? = w0.heap[x]? :=
  h.chg.2.2.2.2 x hx (fun e => by
    rcases e with e | ⟨j, hj, e⟩
    · exact h1 e
    · exact h2 j hj e)

theorem Tk.gr (h : Tk w0 W T M S mE lv L V lr cnt) (g : Gr W W') : Tk w0 W' T M S mE lv L V lr cnt := by
  refine ⟨h.sets.gr g, h.low, fun j hj => ?_, h.mapE.of_block (g.block h.mapE.lt), h.offE, h.chg.trans (g.chg (fun _ => False)) (fun _ _ e => e) (fun _ _ e => e.elim), h.ml, h.sge⟩
  obtain ⟨m0, m1, m3, mf⟩ := h.marks j hj
  exact ⟨g.cell_of m0, g.cell_of m1, g.cell_of m3, by rw [← mf]; simp only [World.frozen?, g.block (World.block_lt_of_cell? _ _ m3)]⟩

theorem sAt_lt {a : Nat} (M S : Nat → Nat) (h : a < 3) : sAt M S a = (M a, 2) := by unfold sAt; rw [if_pos h]
theorem sAt_mid {j : Nat} (M S : Nat → Nat) (h : j < 3) : sAt M S (3 + j) = (M j, 4) := by unfold sAt; rw [if_neg (by omega), if_pos (by omega), Nat.add_sub_cancel_left]
theorem sAt_top (j : Nat) (M S : Nat → Nat) : sAt M S (6 + j) = (S j, 0) := by unfold sAt; rw [if_neg (by omega), if_neg (by omega), Nat.add_sub_cancel_left]

theorem sAt_form {a : Nat} (ha : a < 9) (M S : Nat → Nat) : (∃ j, j < 3 ∧ (sAt M S a = (M j, 2) ∨ sAt M S a = (M j, 4))) ∨ ∃ j, j < 3 ∧ a = 6 + j ∧ sAt M S a = (S j, 0) := by
  by_cases h1 : a < 3
  · exact .inl ⟨a, h1, .inl (sAt_lt M S h1)⟩
  · by_cases h2 : a < 6
    · refine .inl ⟨a - 3, by omega, .inr ?_⟩
      have := sAt_mid M S (show a - 3 < 3 by omega)
      rwa [show 3 + (a - 3) = a by omega] at this
    · refine .inr ⟨a - 6, by omega, by omega, ?_⟩
      have := sAt_top (a - 6) M S
      rwa [show 6 + (a - 6) = a by omega] at this

/-- One add on the set a. -/
theorem Tk.add (h : Tk w0 W T M S mE lv L V lr cnt) {a : Nat} (ha : a < 9) (hl : lv a = true) {v' : Value} {xs : List (Nat × Nat)} (ho : Out W W' (sAt M S a).1 (sAt M S a).2 (V a) v' xs) :
    Tk w0 W' T M S mE lv (lupd L a xs) (fun b => if b = a then v' else V b) lr cnt := by
  have hZ : w0.heap.size ≤ W.heap.size := h.chg.2.2.2.1
  have hov : ∀ j, j < 3 → (V a).ownBlock ≠ some (M j) := fun j hj e => by have := h.sets.base a _ ha hl e; have := (h.ml j hj).1; omega
  refine ⟨h.sets.add ha hl hZ ho, h.low, fun j hj => ?_, h.mapE.of_block (ho.block h.mapE.lt (Ne.symm (h.offE a ha hl).1) (h.offE a ha hl).2), fun b hb hlb => ⟨(h.offE b hb hlb).1, ?_⟩, ?_, h.ml, h.sge⟩
  · obtain ⟨m0, m1, m3, mf⟩ := h.marks j hj
    have hne : ∀ o, o = 0 ∨ o = 1 ∨ o = 3 → M j ≠ (sAt M S a).1 ∨ o ≠ (sAt M S a).2 := fun o hoo => by
      rcases sAt_form ha M S with ⟨i, hi, e | e⟩ | ⟨i, hi, rfl, e⟩
      · rw [e]; exact .inr (by show o ≠ 2; omega)
      · rw [e]; exact .inr (by show o ≠ 4; omega)
      · rw [e]
        left
        show M j ≠ S i
        have := h.sge i hi hl
        have := (h.ml j hj).1
        omega
    exact ⟨ho.cell m0 (hne 0 (by omega)) (hov j hj), ho.cell m1 (hne 1 (by omega)) (hov j hj), ho.cell m3 (hne 3 (by omega)) (hov j hj), by rw [ho.frozen (World.block_lt_of_cell? _ _ m3) (hov j hj)]; exact mf⟩
  · by_cases e : b = a
    · rw [if_pos e]
      intro e2
      rcases ho.at' with e3 | ⟨y, e3, hy⟩
      · rw [e3] at e2; exact (h.offE a ha hl).2 e2
      · rw [e3] at e2
        cases e2
        have := h.mapE.lt
        omega
    · rw [if_neg e]; exact (h.offE b hb hlb).2
  · refine h.chg.trans ho.chg (fun _ _ e => e) (fun x hx e => ?_)
    rcases e with e | e
    · rcases sAt_form ha M S with ⟨i, hi, e2 | e2⟩ | ⟨i, hi, rfl, e2⟩
      · rw [e2] at e; exact .inr ⟨i, hi, e⟩
      · rw [e2] at e; exact .inr ⟨i, hi, e⟩
      · rw [e2] at e
        have := h.sge i hi hl
        exact absurd e (by show x ≠ S i; omega)
    · have := h.sets.base a x ha hl e
      omega

/-- The place of the last read set. -/
theorem Tk.last (h : Tk w0 W T M S mE lv L V lr cnt) {j : Nat} (hj : j < 3) (q : Nat) : Tk w0 (W.setCell ⟨M j, 3, none⟩ (.int .u64 (q : Nat))) T M S mE lv L V (fun i => if i = j then q else lr i) cnt := by
  have hinj : ∀ i, i < 3 → M i = M j → i = j := fun i hi e => h.sets.inj i j (by omega) (by omega) (h.low i (by omega)) (h.low j (by omega)) (by rw [sAt_lt M S hi, sAt_lt M S hj, e])
  refine ⟨h.sets.keep (fun a ha hl => ⟨?_, by simp⟩) (fun a x ha hl hx => ?_), h.low, fun i hi => ?_, h.mapE.of_block (Below.heap_setCell _ _ _ _ (Ne.symm (h.ml j hj).2)), h.offE, ?_, h.ml, h.sge⟩
  · refine cell_setCell_other ?_
    rcases sAt_form ha M S with ⟨i, hi, e | e⟩ | ⟨i, hi, rfl, e⟩
    · rw [e]; exact .inr (by show (2 : Nat) ≠ 3; omega)
    · rw [e]; exact .inr (by show (4 : Nat) ≠ 3; omega)
    · rw [e]; exact .inr (by show (0 : Nat) ≠ 3; omega)
  · exact Below.heap_setCell _ _ _ _ (fun e => by have := h.sets.base a x ha hl hx; have := (h.ml j hj).1; have e' : x = M j := e; omega)
  · obtain ⟨m0, m1, m3, mf⟩ := h.marks i hi
    refine ⟨by rw [cell_setCell_other (.inr (by omega))]; exact m0, by rw [cell_setCell_other (.inr (by omega))]; exact m1, ?_, by simpa using mf⟩
    by_cases e : i = j
    · subst e; rw [if_pos rfl]; exact cell_setCell_same m3
    · rw [if_neg e, cell_setCell_other (.inl (fun e' => e (hinj i hi e')))]; exact m3
  · refine h.chg.trans (q := fun x => x = M j) ⟨rfl, rfl, rfl, by simp [World.setCell], fun x _ hn => Below.heap_setCell _ _ _ _ hn⟩ (fun _ _ e => e) (fun x _ e => .inr ⟨j, hj, e⟩)

end Go.Proofs.Ybulkbopq
