/-
  xacts.partOf by its contract: the lock by its own, one goroutine.
-/
import Derived.Test.YbulkbopqSmall
import Derived.Test.YbulkbopqLocks
namespace Go.Proofs.Ybulkbopq
open Go.RowKit
open Go.RwLone

theorem setCell_same {w : World} {b o : Nat} {v : Value} (h : w.cell? ⟨b, o, none⟩ = some v) : w.setCell ⟨b, o, none⟩ v = w := by
  unfold World.setCell
  congr 1
  apply Array.ext_getElem?
  intro i
  rw [Array.getElem?_modify]
  split
  · rename_i hi
    subst hi
    cases hb : w.heap[b]? with
    | none => simp
    | some ob =>
      cases ob with
      | cells c t fr =>
        simp only [World.cell?, hb] at h
        simp only [Option.map_some, Option.some.injEq, Option.isSome_none, Bool.false_eq_true, if_false, Obj.cells.injEq, and_true]
        apply Array.ext_getElem?
        intro j
        rw [Array.getElem?_setIfInBounds]
        by_cases hj : o = j
        · subst hj
          have h' : c[o]? = some v := by simpa using h
          rw [if_pos rfl, if_pos (Array.getElem?_eq_some_iff.1 h').1, h']
        · rw [if_neg hj]
      | map => simp [World.cell?, hb] at h
      | _ => rfl
  · rfl

theorem setCell_twice {w : World} {b o : Nat} (v u : Value) : (w.setCell ⟨b, o, none⟩ v).setCell ⟨b, o, none⟩ u = w.setCell ⟨b, o, none⟩ u := by
  unfold World.setCell
  simp only [World.mk.injEq, and_true]
  apply Array.ext_getElem?
  intro i
  rw [Array.getElem?_modify, Array.getElem?_modify, Array.getElem?_modify]
  split
  · cases hb : w.heap[i]? with
    | none => simp
    | some ob => cases ob <;> simp
  · rfl

theorem rlockX (w : World) (X : Nat) (x0 x3 : Value) (c0 : w.cell? ⟨X, 0, none⟩ = some x0) (c3 : w.cell? ⟨X, 3, none⟩ = some x3) (c4 : w.cell? ⟨X, 4, none⟩ = some (.int .i32 0)) (z4 : w.frozen? ⟨X, 4, none⟩ = false) :
    Calls Yba.prog 20 #[.pointer (some ⟨X, 0, none⟩)] w fun e w' => e = .returned (.tuple #[]) ∧ w' = w.setCell ⟨X, 4, none⟩ (.int .i32 1) :=
  (rlock_open rwRLib X 0 0 x0 x3 w c0 c3 c4 z4 (by simp [wrap32])).mono fun e w' ⟨h1, h2⟩ => ⟨h1, by simpa [wrap32] using h2⟩

theorem runlockX (w : World) (X : Nat) (x0 x2 : Value) (c0 : w.cell? ⟨X, 0, none⟩ = some x0) (c2 : w.cell? ⟨X, 2, none⟩ = some x2) (c4 : w.cell? ⟨X, 4, none⟩ = some (.int .i32 1)) (z4 : w.frozen? ⟨X, 4, none⟩ = false) :
    CallsD Yba.prog 21 #[.pointer (some ⟨X, 0, none⟩)] .returning w fun e u' w' => u' = .returning ∧ (e = .returned (.tuple #[]) ∧ w' = w.setCell ⟨X, 4, none⟩ (.int .i32 0)) :=
  (runlock_deferred rwRLib X 0 1 x0 x2 .returning w c0 c2 c4 z4 (by simp [wrap32])).mono fun e u' w' ⟨h0, h1, h2⟩ => ⟨h0, h1, by simpa [wrap32] using h2⟩

/-- The transactions at block X: the lock free, the commit log at block C, the map of parents at block M. -/
def XS (w : World) (X C M : Nat) : Prop :=
  ∃ x0 x2 x3, w.cell? ⟨X, 0, none⟩ = some x0 ∧ w.cell? ⟨X, 2, none⟩ = some x2 ∧ w.cell? ⟨X, 3, none⟩ = some x3 ∧ w.cell? ⟨X, 4, none⟩ = some (.int .i32 0) ∧ w.frozen? ⟨X, 4, none⟩ = false ∧
    w.cell? ⟨X, 7, none⟩ = some (.pointer (some ⟨C, 0, none⟩)) ∧ w.cell? ⟨X, 8, none⟩ = some (.map (some M))

theorem ansA {a t d : Nat} (ht : a = t) : (((d : Nat) : Int) != 2) = (decide (a = t) && !decide (d = 2)) := by
  rw [ht]
  by_cases h2 : d = 2
  · rw [h2]; simp
  · have : (((d : Nat) : Int) == 2) = false := by simp; omega
    simp [bne, this, h2]
theorem ansB {a t d : Nat} (ht : ¬ a = t) : false = (decide (a = t) && !decide (d = 2)) := by simp [ht]

set_option maxRecDepth 100000 in
set_option maxHeartbeats 1600000 in
theorem partOf_calls (w : World) (X C S R M n : Nat) (s : Nat → Nat) (k : Nat) (P : Nat → Option Nat) (hP : ∀ i p, P i = some p → p < i) (hX : XS w X C M) (hL : Log w C S R s k) (hM : MapIs w .u32 M (mapF P) n)
    (hXR : X ≠ R) (hXM : X ≠ M) (i : Nat) (hi : i < 256) (t : Nat) :
    Calls Yba.prog 13 #[.pointer (some ⟨X, 0, none⟩), .int .u32 (i : Nat), .int .u32 (t : Nat)] w fun e w' => e = .returned (.bool (decide (Pl.top P i = t) && !decide (Pl.dg s k i = 2))) ∧ w' = w := by
  obtain ⟨x0, x2, x3, c0, c2, c3, c4, z4, c7, c8⟩ := hX
  have hother : ∀ o, o ≠ 4 → (w.setCell ⟨X, 4, none⟩ (.int .i32 1)).cell? ⟨X, o, none⟩ = w.cell? ⟨X, o, none⟩ := fun o ho => World.cell?_setCell_other w ⟨X, 4, none⟩ ⟨X, o, none⟩ _ (by simp only [ne_eq, Addr.mk.injEq]; omega)
  have hblk : ∀ g, g ≠ X → (w.setCell ⟨X, 4, none⟩ (.int .i32 1)).heap[g]? = w.heap[g]? := fun g hg => Below.heap_setCell _ _ _ _ (by simpa using hg)
  have hL' : Log (w.setCell ⟨X, 4, none⟩ (.int .i32 1)) C S R s k := by
    obtain ⟨l1, l2, l3⟩ := hL
    refine ⟨?_, ?_, l3.of_block (hblk R (Ne.symm hXR))⟩
    · exact (World.cell?_setCell_other w ⟨X, 4, none⟩ ⟨C, 1, none⟩ _ (by simp)).trans l1
    · exact (World.cell?_setCell_other w ⟨X, 4, none⟩ ⟨S, 0, none⟩ _ (by simp)).trans l2
  have hM' := hM.of_block (hblk M (Ne.symm hXM))
  have c7' := (hother 7 (by omega)).trans c7
  have c8' := (hother 8 (by omega)).trans c8
  have c0' := (hother 0 (by omega)).trans c0
  have c2' := (hother 2 (by omega)).trans c2
  have c4' : (w.setCell ⟨X, 4, none⟩ (.int .i32 1)).cell? ⟨X, 4, none⟩ = some (.int .i32 1) := World.cell?_setCell_same w ⟨X, 4, none⟩ (.int .i32 1) c4
  have z4' : (w.setCell ⟨X, 4, none⟩ (.int .i32 1)).frozen? ⟨X, 4, none⟩ = false := by simp [z4]
  have hback : (w.setCell ⟨X, 4, none⟩ (.int .i32 1)).setCell ⟨X, 4, none⟩ (.int .i32 0) = w := by rw [setCell_twice, setCell_same c4]
  go_enter_defers Yba.func13, Yba.ntmps13
  go_wp2_with (go_at_call 20; refine (rlockX _ X x0 x3 c0 c3 c4 z4).mono ?_; rintro e w' ⟨rfl, rfl⟩)
  refine (top_calls _ M n P hP hM' i hi).mono ?_
  rintro e w' ⟨rfl, rfl⟩
  by_cases ht : Pl.top P i = t
  · have ht' : (((Pl.top P i : Nat) : Int) == ((t : Nat) : Int)) = true := by rw [ht]; simp
    go_wp2_with fail
    refine (status_calls _ C S R s k hL' i hi).mono ?_
    rintro e w' ⟨rfl, rfl⟩
    go_wp2_with fail
    refine leaves_cons (f := 21) (args := #[.pointer (some ⟨X, 0, none⟩)]) (by simp) (by simp [go_sem]) ?_
    refine (runlockX _ X x0 x2 c0' c2' c4' z4').mono ?_
    rintro e u' w'' ⟨rfl, rfl, rfl⟩
    refine ⟨_, results_tmp rfl _ _ _, ?_, hback⟩
    rw [← ansA ht]
    rfl
  · have ht' : (((Pl.top P i : Nat) : Int) == ((t : Nat) : Int)) = false := by simp; omega
    go_wp2_with fail
    refine leaves_cons (f := 21) (args := #[.pointer (some ⟨X, 0, none⟩)]) (by simp) (by simp [go_sem]) ?_
    refine (runlockX _ X x0 x2 c0' c2' c4' z4').mono ?_
    rintro e u' w'' ⟨rfl, rfl, rfl⟩
    refine ⟨_, results_tmp rfl _ _ _, ?_, hback⟩
    rw [← ansB ht]
    rfl
end Go.Proofs.Ybulkbopq
