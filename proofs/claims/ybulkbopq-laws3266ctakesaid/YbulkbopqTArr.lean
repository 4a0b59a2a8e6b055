/-
  A row of n cells by what it holds.
-/
import Derived.Test.YbulkbopqChecked
import Derived.WalkKit
import Derived.Laws.AppendOwn
import Derived.Below
import Derived.KernelRfl
namespace Go.Proofs.Ybulkbopq
open Go.RowKit

def fupd {α : Type} (f : Nat → α) (c : Nat) (v : α) : Nat → α := fun i => if i = c then v else f i
theorem fupd_same {α : Type} (f : Nat → α) (c : Nat) (v : α) : fupd f c v c = v := by simp [fupd]
theorem fupd_other {α : Type} (f : Nat → α) {i c : Nat} (v : α) (h : i ≠ c) : fupd f c v i = f i := by simp [fupd, h]

/-- Block B is a row of n cells, none frozen; cell c holds g c. -/
def Arr (w : World) (B : Nat) (t : TypeId) (n : Nat) (g : Nat → Value) : Prop := ∃ arr : Array Value, w.heap[B]? = some (.cells arr t (0, 0)) ∧ arr.size = n ∧ ∀ c, c < n → arr[c]? = some (g c)

theorem Arr.cell {w : World} {B n : Nat} {t : TypeId} {g : Nat → Value} (h : Arr w B t n g) {c : Nat} (hc : c < n) : w.cell? ⟨B, c, none⟩ = some (g c) := by
  obtain ⟨arr, hb, _, ha⟩ := h
  simp [World.cell?, hb, ha c hc]

theorem Arr.frozen {w : World} {B n : Nat} {t : TypeId} {g : Nat → Value} (h : Arr w B t n g) (c : Nat) : w.frozen? ⟨B, c, none⟩ = false := by
  obtain ⟨arr, hb, _⟩ := h
  simp [World.frozen?, hb]

theorem Arr.lt {w : World} {B n : Nat} {t : TypeId} {g : Nat → Value} (h : Arr w B t n g) : B < w.heap.size := by
  obtain ⟨arr, hb, _⟩ := h
  exact (Array.getElem?_eq_some_iff.1 hb).1

theorem Arr.of_block {w w' : World} {B n : Nat} {t : TypeId} {g : Nat → Value} (h : Arr w B t n g) (hb : w'.heap[B]? = w.heap[B]?) : Arr w' B t n g := by
  obtain ⟨arr, hh, r⟩ := h
  exact ⟨arr, hb.trans hh, r⟩

theorem Arr.set {w : World} {B n : Nat} {t : TypeId} {g : Nat → Value} (h : Arr w B t n g) (c : Nat) (v : Value) : Arr (w.setCell ⟨B, c, none⟩ v) B t n (fupd g c v) := by
  obtain ⟨arr, hb, hs, ha⟩ := h
  refine ⟨arr.setIfInBounds c v, ?_, by simpa using hs, fun d hd => ?_⟩
  · simp [World.setCell, Array.getElem?_modify, hb]
  · rw [Array.getElem?_setIfInBounds]
    by_cases hdc : c = d
    · subst hdc
      rw [if_pos rfl, if_pos (by omega), fupd_same]
    · rw [if_neg hdc, fupd_other _ _ (Ne.symm hdc)]
      exact ha d hd

theorem Arr.set_other {w : World} {B n : Nat} {t : TypeId} {g : Nat → Value} (h : Arr w B t n g) {p : Addr} (hp : B ≠ p.block) (v : Value) : Arr (w.setCell p v) B t n g :=
  h.of_block (Below.heap_setCell _ _ _ _ hp)

theorem Arr.congr {w : World} {B n : Nat} {t : TypeId} {g g' : Nat → Value} (h : Arr w B t n g) (e : ∀ c, c < n → g c = g' c) : Arr w B t n g' := by
  obtain ⟨arr, hb, hs, ha⟩ := h
  exact ⟨arr, hb, hs, fun c hc => by rw [← e c hc]; exact ha c hc⟩

theorem Arr.made (w : World) (n : Nat) (v : Value) (t : TypeId) : Arr (w.alloc (.cells (Array.replicate n v) t)) w.heap.size t n (fun _ => v) :=
  ⟨Array.replicate n v, heap_alloc_new w _, by simp, fun c hc => by simp [hc]⟩

end Go.Proofs.Ybulkbopq
