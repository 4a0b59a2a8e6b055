/-
  Worlds that have only grown; the keys that the law uses, compared.
-/
import Derived.Test.YbulkbopqChecked
import Derived.WalkKit
import Derived.Below
import Derived.KernelRfl
import Derived.Deep.Draws
import Derived.Sort.Grow
import Derived.Laws.AppendOwn
namespace Go.Proofs.Ybulkbopq
open Go.RowKit Go.Sort

/-- w' is w after some draws, with some blocks laid behind it. -/
def Gr (w w' : World) : Prop := ∃ q os, w' = grow (w.drewN q) os

theorem Gr.iff {w w' : World} : Gr w w' ↔ (w'.tape = w.tape ∧ w'.os = w.os ∧ w'.output = w.output ∧ w.drawn ≤ w'.drawn ∧ w.heap.size ≤ w'.heap.size ∧ ∀ k, k < w.heap.size → w'.heap[k]? = w.heap[k]?) := by
  constructor
  · rintro ⟨q, os, rfl⟩
    refine ⟨rfl, rfl, rfl, ?_, ?_, fun k hk => heap_grow_old (w.drewN q) os hk⟩
    · show w.drawn ≤ w.drawn + q
      omega
    · show w.heap.size ≤ (w.heap ++ os).size
      simp
  · rintro ⟨h1, h2, h3, h4, h5, h6⟩
    refine ⟨w'.drawn - w.drawn, w'.heap.extract w.heap.size w'.heap.size, ?_⟩
    cases w'
    simp only at h1 h2 h3 h4 h5 h6
    subst h1 h2 h3
    simp only [grow, World.drewN, World.mk.injEq, true_and, and_true]
    refine ⟨?_, by omega⟩
    apply Array.ext_getElem?
    intro i
    rw [Array.getElem?_append]
    by_cases hi : i < w.heap.size
    · rw [if_pos hi, h6 i hi]
    · rw [if_neg hi, Array.getElem?_extract]
      split
      · congr 1; omega
      · rw [Array.getElem?_eq_none (by omega)]

theorem Gr.refl (w : World) : Gr w w := ⟨0, #[], by rw [grow_empty]; rfl⟩
theorem Gr.trans {a b c : World} (h : Gr a b) (h' : Gr b c) : Gr a c := by
  rw [Gr.iff] at *
  obtain ⟨h1, h2, h3, h4, h5, h6⟩ := h
  obtain ⟨g1, g2, g3, g4, g5, g6⟩ := h'
  exact ⟨g1.trans h1, g2.trans h2, g3.trans h3, by omega, by omega, fun k hk => (g6 k (by omega)).trans (h6 k hk)⟩
theorem Gr.alloc {a b : World} (h : Gr a b) (o : Obj) : Gr a (b.alloc o) := h.trans ⟨0, #[o], by rw [alloc_eq_grow]; rfl⟩
theorem Gr.drew {a b : World} (h : Gr a b) : Gr a b.drew := h.trans ⟨1, #[], by rw [grow_empty]; rfl⟩
theorem Gr.drewN {a b : World} (h : Gr a b) (n : Nat) : Gr a (b.drewN n) := h.trans ⟨n, #[], by rw [grow_empty]⟩
theorem Gr.grow {a b : World} (h : Gr a b) (n : Nat) (os : Array Obj) : Gr a (grow (b.drewN n) os) := h.trans ⟨n, os, rfl⟩
theorem Gr.setCell {a b : World} (h : Gr a b) {p : Addr} (hp : a.heap.size ≤ p.block) (v : Value) : Gr a (b.setCell p v) := by
  rw [Gr.iff] at *
  obtain ⟨h1, h2, h3, h4, h5, h6⟩ := h
  exact ⟨h1, h2, h3, h4, by simpa [World.setCell] using h5, fun k hk => (Below.heap_setCell _ _ _ _ (by omega)).trans (h6 k hk)⟩
theorem Gr.block {a b : World} (h : Gr a b) {k : Nat} (hk : k < a.heap.size) : b.heap[k]? = a.heap[k]? := (Gr.iff.1 h).2.2.2.2.2 k hk
theorem Gr.size {a b : World} (h : Gr a b) : a.heap.size ≤ b.heap.size := (Gr.iff.1 h).2.2.2.2.1
theorem Gr.cell {a b : World} (h : Gr a b) {p : Addr} (hp : p.block < a.heap.size) : b.cell? p = a.cell? p := by simp only [World.cell?, h.block hp]
theorem Gr.cell_of {a b : World} (h : Gr a b) {p : Addr} {v : Value} (hp : a.cell? p = some v) : b.cell? p = some v := by rw [h.cell (World.block_lt_of_cell? _ _ hp)]; exact hp
theorem Gr.below {a b : World} (h : Gr a b) {B : Nat} (hB : B ≤ a.heap.size) : Below B a b := by
  obtain ⟨h1, h2, h3, _, h5, h6⟩ := Gr.iff.1 h
  exact ⟨h2, h1, h3, by omega, fun k hk => h6 k (by omega)⟩

/-- The order of two keys, as cmp.Compare says it. -/
def kcmp (a b : Nat) : Int := if a < b then -1 else if b < a then 1 else 0

theorem nan_calls (w : World) (a : Int) : Calls Yba.prog 59 #[.int .i64 a] w fun e w' => e = .returned (.bool false) ∧ w' = w := by
  go_enter Yba.func59, Yba.ntmps59
  go_wp2
  go_ret
  exact ⟨by simp, rfl⟩

theorem cmp64_calls (w : World) (a b : Nat) : Calls Yba.prog 56 #[.int .i64 (a : Nat), .int .i64 (b : Nat)] w fun e w' => e = .returned (.int .i64 (kcmp a b)) ∧ w' = w := by
  have c := nan_calls
  by_cases h1 : a < b
  · have h1' : (a : Int) < (b : Int) := by omega
    go_enter Yba.func56, Yba.ntmps56
    go_wp2_with (go_at_call 59; refine (c _ _).mono ?_; rintro e w' ⟨rfl, rfl⟩)
    go_ret
    exact ⟨by simp [kcmp, h1], rfl⟩
  · have h1' : ¬ (a : Int) < (b : Int) := by omega
    by_cases h2 : b < a
    · have h2' : (b : Int) < (a : Int) := by omega
      go_enter Yba.func56, Yba.ntmps56
      go_wp2_with (go_at_call 59; refine (c _ _).mono ?_; rintro e w' ⟨rfl, rfl⟩)
      go_ret
      exact ⟨by simp [kcmp, h1, h2], rfl⟩
    · have h2' : ¬ (b : Int) < (a : Int) := by omega
      go_enter Yba.func56, Yba.ntmps56
      go_wp2_with (go_at_call 59; refine (c _ _).mono ?_; rintro e w' ⟨rfl, rfl⟩)
      go_ret
      exact ⟨by simp [kcmp, h1, h2], rfl⟩

theorem run_cmp_nil (w : World) : (Extern.BytealgCompare.compare #[.slice none 0 0, .slice none 0 0]).run Yba.prog w = .ok (.int .i64 0) w := by
  kernel_rfl

theorem bcmp_calls (w : World) : Calls Yba.prog 57 #[.slice none 0 0, .slice none 0 0] w fun e w' => e = .returned (.int .i64 0) ∧ w' = w := by
  go_enter Yba.func57, Yba.ntmps57
  go_wp2
  rw [run_callFunc_extern Yba.func60 (by kernel_rfl) (by kernel_rfl) (by kernel_rfl) (e := Extern.BytealgCompare.compare) (by kernel_rfl), run_cmp_nil]
  simp only [Result.andThen]
  rw [Oper.upon_value]
  go_wp2
  go_ret
  exact ⟨rfl, rfl⟩

/-- A key that holds a number alone. -/
def kz (k : Nat) : Value := .agg #[.bool false, .int .i64 (k : Nat), .slice none 0 0]

theorem keys_calls (w : World) (a b : Nat) : Calls Yba.prog 47 #[.agg #[.bool false, .int .i64 (a : Nat), .slice none 0 0], .agg #[.bool false, .int .i64 (b : Nat), .slice none 0 0]] w fun e w' => e = .returned (.int .i64 (kcmp a b)) ∧ Gr w w' := by
  have c1 := fun W => cmp64_calls W a b
  have c2 := bcmp_calls
  by_cases h0 : kcmp a b = 0
  · rw [h0] at c1 ⊢
    go_enter Yba.func47, Yba.ntmps47
    go_wp2_with first | (go_at_call 56; refine (c1 _).mono ?_; rintro e w' ⟨rfl, rfl⟩) | (go_at_call 57; refine (c2 _).mono ?_; rintro e w' ⟨rfl, rfl⟩)
    go_ret
    exact ⟨rfl, ((Gr.refl w).alloc _).alloc _⟩
  · have h0' : (kcmp a b != 0) = true := by simp [h0]
    generalize kcmp a b = z at *
    go_enter Yba.func47, Yba.ntmps47
    go_wp2_with (go_at_call 56; refine (c1 _).mono ?_; rintro e w' ⟨rfl, rfl⟩)
    go_ret
    exact ⟨rfl, ((Gr.refl w).alloc _).alloc _⟩

end Go.Proofs.Ybulkbopq
