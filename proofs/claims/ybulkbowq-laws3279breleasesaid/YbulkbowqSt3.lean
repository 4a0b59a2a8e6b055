/-
  The rows as they are made; what a round of the filling reads. No walk.
-/
import Derived.Test.YbulkbowqSt2
namespace Go.Proofs.Ybulkbowq
open Go.RowKit

theorem st_init {w wc : World} {B n bB bK bD : Nat} {gIn : Nat → Value} {own reach : Int} (h : St0 w wc B n gIn own reach bB bK bD) (bt : Nat → Int) (dr : Nat → Bool) (lK : Nat) (L : Nat → Nat) (X : Nat → Nat → Int) :
    St w (((wc.alloc (.cells (madeCells #[.slice none 0 0] n) 28)).alloc (.cells (madeCells #[.bool false] n) 4)).alloc (.cells (madeCells #[.int .i64 0] n) 3)) B n bB bK bD gIn (gH own reach n bB bK bD) bt dr lK L X 0 0 0 0 0 0 0 := by
  obtain ⟨⟨q1, q2, q3, q4, q5, q6⟩, a1, a2, a3, a4, a5, a6, sz⟩ := h
  generalize hw1 : wc.alloc (.cells (madeCells #[.slice none 0 0] n) 28) = w1
  generalize hw2 : w1.alloc (.cells (madeCells #[.bool false] n) 4) = w2
  generalize hw3 : w2.alloc (.cells (madeCells #[.int .i64 0] n) 3) = w3
  have s1 : w1.heap.size = B + 6 := by rw [← hw1]; simp [sz]
  have s2 : w2.heap.size = B + 7 := by rw [← hw2]; simp [s1]
  have s3 : w3.heap.size = B + 8 := by rw [← hw3]; simp [s2]
  have e1 : Arr w1 (B + 5) 28 n (fun _ => .slice none 0 0) := by rw [← hw1, ← sz]; exact Arr.ofMade wc n _ 28
  have e2 : Arr w2 (B + 6) 4 n (fun _ => .bool false) := by rw [← hw2, ← s1]; exact Arr.ofMade w1 n _ 4
  have e3 : Arr w3 (B + 7) 3 n (fun _ => .int .i64 0) := by rw [← hw3, ← s2]; exact Arr.ofMade w2 n _ 3
  have f1 : ∀ x, x < B + 5 → w1.heap[x]? = wc.heap[x]? := fun x hx => by rw [← hw1]; exact Below.heap_alloc _ _ _ (by omega)
  have f2 : ∀ x, x < B + 6 → w2.heap[x]? = w1.heap[x]? := fun x hx => by rw [← hw2]; exact Below.heap_alloc _ _ _ (by omega)
  have f3 : ∀ x, x < B + 7 → w3.heap[x]? = w2.heap[x]? := fun x hx => by rw [← hw3]; exact Below.heap_alloc _ _ _ (by omega)
  have f : ∀ x, x < B + 5 → w3.heap[x]? = wc.heap[x]? := fun x hx => by rw [f3 x (by omega), f2 x (by omega), f1 x hx]
  exact
    { inn := a5.of_block (f _ (by omega))
      hold := a4.of_block (f _ (by omega))
      beat := (a1.of_block (f _ (by omega))).congr fun c _ => by rw [if_neg (by omega)]
      kept := (a2.of_block (f _ (by omega))).congr fun c _ => by rw [if_neg (by omega)]
      drop := (a3.of_block (f _ (by omega))).congr fun c _ => by rw [if_neg (by omega)]
      rnds := ((e1.of_block (f2 _ (by omega))).of_block (f3 _ (by omega))).congr fun c _ => by rw [if_neg (by omega)]
      d0 := (e2.of_block (f3 _ (by omega))).congr fun c _ => by rw [if_neg (by omega)]
      b0 := e3.congr fun c _ => by rw [if_neg (by omega)]
      rows := fun c h1 _ => by omega
      size := s3
      low := by
        rw [← hw3]
        refine Below.alloc ?_ (by omega) _
        rw [← hw2]
        refine Below.alloc ?_ (by omega) _
        rw [← hw1]
        exact a6.alloc (by omega) _
      pB := q1
      pK := q2
      pD := q3
      pBK := q4
      pBD := q5
      pKD := q6 }

section
variable {w wr : World} {B n bB bK bD : Nat} {gIn : Nat → Value} {own reach : Int} {bt : Nat → Int} {dr : Nat → Bool} {lK : Nat} {L : Nat → Nat} {X : Nat → Nat → Int} {jB jD jD0 jB0 jR jK top : Nat}

theorem St.h4 (h : St w wr B n bB bK bD gIn (gH own reach n bB bK bD) bt dr lK L X jB jD jD0 jB0 jR jK top) : wr.cell? ⟨B + 4, 4, none⟩ = some (.slice (some ⟨bB, 0, none⟩) n n) := h.hold.cell (c := 4) (by omega)
theorem St.h5 (h : St w wr B n bB bK bD gIn (gH own reach n bB bK bD) bt dr lK L X jB jD jD0 jB0 jR jK top) : wr.cell? ⟨B + 4, 5, none⟩ = some (.slice (some ⟨bK, 0, none⟩) n n) := h.hold.cell (c := 5) (by omega)
theorem St.h6 (h : St w wr B n bB bK bD gIn (gH own reach n bB bK bD) bt dr lK L X jB jD jD0 jB0 jR jK top) : wr.cell? ⟨B + 4, 6, none⟩ = some (.slice (some ⟨bD, 0, none⟩) n n) := h.hold.cell (c := 6) (by omega)
end
end Go.Proofs.Ybulkbowq
