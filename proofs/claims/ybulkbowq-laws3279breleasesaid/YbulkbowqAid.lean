/-
  The law's data: what comes in, what is made of it; the rows as they are filled. No walk.
-/
import Derived.Test.YbulkbowqReady
import Derived.Test.YbulkbowqLimit
import Derived.Deep.OwnRows
namespace Go.Proofs.Ybulkbowq
open Go.RowKit

/-- A slice of int32s that came in. -/
def SrcI (w : World) (a : Option Addr) (len : Nat) (x : Nat → Int) : Prop :=
  (∀ j, I32 (x j)) ∧ (0 < len → ∃ pb po, a = some ⟨pb, po, none⟩ ∧ pb < w.heap.size ∧ ∀ j, j < len → w.cell? ⟨pb, po + j, none⟩ = some (.int .i32 (x j)))
/-- A slice of bools that came in. -/
def SrcB (w : World) (a : Option Addr) (len : Nat) (x : Nat → Bool) : Prop :=
  0 < len → ∃ pb po, a = some ⟨pb, po, none⟩ ∧ pb < w.heap.size ∧ ∀ j, j < len → w.cell? ⟨pb, po + j, none⟩ = some (.bool (x j))
/-- A slice of slices of int32s that came in. -/
def SrcK (w : World) (a : Option Addr) (len : Nat) (ka : Nat → Option Addr) (L cp : Nat → Nat) (X : Nat → Nat → Int) : Prop :=
  (∀ i j, I32 (X i j)) ∧ (0 < len → ∃ pb po, a = some ⟨pb, po, none⟩ ∧ pb < w.heap.size ∧ ∀ i, i < len → w.cell? ⟨pb, po + i, none⟩ = some (.slice (ka i) (L i) (cp i)) ∧ SrcI w (ka i) (L i) (X i))

theorem Arr.ofMade (w : World) (m : Nat) (z : Value) (t : TypeId) : Arr (w.alloc (.cells (madeCells #[z] m) t)) w.heap.size t m (fun _ => z) :=
  ⟨_, heap_alloc_new w _, size_madeCells _ _, fun c hc => by rw [← Array.getElem?_toList, toList_madeCells_one, List.getElem?_replicate, if_pos hc]⟩

theorem Arr.ofMade2 (w : World) (m : Nat) (t : TypeId) : Arr (w.alloc (.cells (madeCells #[.int .i64 0, .int .i64 0] (m * 2)) t)) w.heap.size t (2 * m) (fun _ => .int .i64 0) := by
  refine ⟨_, heap_alloc_new w _, by rw [size_madeCells]; omega, fun c hc => ?_⟩
  rw [madeCells, Array.getElem?_map, Array.getElem?_eq_getElem (by simp; omega)]
  have h2 : c % 2 = 0 ∨ c % 2 = 1 := by omega
  rcases h2 with h2 | h2 <;> simp [h2]

theorem mk28 (m : Nat) (hm : m ≤ 1024) (w : World) : (Instr.makeSlice 28 (.int .i64 (m : Nat)) (.int .i64 (m : Nat))).run Yba.prog w = .ok (.slice (some ⟨w.heap.size, 0, none⟩) m m) (w.alloc (.cells (madeCells #[.int .i64 0] m) 3)) :=
  run_make_row' (P := Yba.prog) 28 3 (.int .i64 0) 8 Yba.underlying28 (by kernel_rfl) rfl .i64 .i64 m (by omega) (by omega) w
theorem mk29 (m : Nat) (hm : m ≤ 1024) (w : World) : (Instr.makeSlice 29 (.int .i64 (m : Nat)) (.int .i64 (m : Nat))).run Yba.prog w = .ok (.slice (some ⟨w.heap.size, 0, none⟩) m m) (w.alloc (.cells (madeCells #[.slice none 0 0] m) 36)) :=
  run_make_row' (P := Yba.prog) 29 36 (.slice none 0 0) 24 Yba.underlying29 (by kernel_rfl) rfl .i64 .i64 m (by omega) (by omega) w
theorem mk24 (m : Nat) (hm : m ≤ 1024) (w : World) : (Instr.makeSlice 24 (.int .i64 (m : Nat)) (.int .i64 (m : Nat))).run Yba.prog w = .ok (.slice (some ⟨w.heap.size, 0, none⟩) m m) (w.alloc (.cells (madeCells #[.bool false] m) 4)) :=
  run_make_row' (P := Yba.prog) 24 4 (.bool false) 1 Yba.underlying24 (by kernel_rfl) rfl .i64 .i64 m (by omega) (by omega) w
theorem mk35 (m : Nat) (hm : m ≤ 1024) (w : World) : (Instr.makeSlice 35 (.int .i64 (m : Nat)) (.int .i64 (m : Nat))).run Yba.prog w = .ok (.slice (some ⟨w.heap.size, 0, none⟩) m m) (w.alloc (.cells (madeCells #[.slice none 0 0] m) 28)) :=
  run_make_row' (P := Yba.prog) 35 28 (.slice none 0 0) 24 Yba.underlying35 (by kernel_rfl) rfl .i64 .i64 m (by omega) (by omega) w
theorem mk36 (m : Nat) (hm : m ≤ 1024) (w : World) : (Instr.makeSlice 36 (.int .i64 (m : Nat)) (.int .i64 (m : Nat))).run Yba.prog w = .ok (.slice (some ⟨w.heap.size, 0, none⟩) m m) (w.alloc (.cells (madeCells #[.int .i64 0, .int .i64 0] (m * 2)) 38)) := by
  obtain ⟨i, hi, hz, hs, hb⟩ := info38
  have h := run_make (P := Yba.prog) w 36 38 i (.agg #[.int .i64 0, .int .i64 0]) Yba.underlying36 hi hz .i64 .i64 m m (by omega) (Int.le_refl _) (by rw [hb]; omega) (by omega)
  rw [hs] at h
  simp only [Int.toNat_natCast] at h
  exact h

/-- The hold's cells. -/
def gH (own reach : Int) (n bB bK bD : Nat) (c : Nat) : Value :=
  ([.nilFunc, .int .i64 reach, .pointer none, .int .i64 own, .slice (some ⟨bB, 0, none⟩) n n, .slice (some ⟨bK, 0, none⟩) n n, .slice (some ⟨bD, 0, none⟩) n n, .slice none 0 0] : List Value).getD c undef

/-- What stands when the rows of the hold are made. -/
def St0 (w wx : World) (B n : Nat) (gIn : Nat → Value) (own reach : Int) (bB bK bD : Nat) : Prop :=
  ((B + 1 ≤ bB ∧ bB ≤ B + 3) ∧ (B + 1 ≤ bK ∧ bK ≤ B + 3) ∧ (B + 1 ≤ bD ∧ bD ≤ B + 3) ∧ bB ≠ bK ∧ bB ≠ bD ∧ bK ≠ bD) ∧ Arr wx bB 3 n (fun _ => .int .i64 0) ∧ Arr wx bK 36 n (fun _ => .slice none 0 0) ∧ Arr wx bD 4 n (fun _ => .bool false) ∧
    Arr wx (B + 4) 34 8 (gH own reach n bB bK bD) ∧ Arr wx B 26 8 gIn ∧ Below B w wx ∧ wx.heap.size = B + 5

theorem made3 {w W : World} {B n : Nat} {gIn : Nat → Value} (hIn : Arr W B 26 8 gIn) (hB : Below B w W) (hs : W.heap.size = B + 1) (z1 z2 z3 : Value) (t1 t2 t3 : TypeId) (own reach : Int) (bB bK bD : Nat) (W4 : World)
    (h4 : W4 = ((((W.alloc (.cells (madeCells #[z1] n) t1)).alloc (.cells (madeCells #[z2] n) t2)).alloc (.cells (madeCells #[z3] n) t3)).alloc
      (.cells #[.nilFunc, .int .i64 reach, .pointer none, .int .i64 own, .slice (some ⟨bB, 0, none⟩) n n, .slice (some ⟨bK, 0, none⟩) n n, .slice (some ⟨bD, 0, none⟩) n n, .slice none 0 0] 34)).drew) :
    Arr W4 (B + 1) t1 n (fun _ => z1) ∧ Arr W4 (B + 2) t2 n (fun _ => z2) ∧ Arr W4 (B + 3) t3 n (fun _ => z3) ∧ Arr W4 (B + 4) 34 8 (gH own reach n bB bK bD) ∧ Arr W4 B 26 8 gIn ∧ Below B w W4 ∧ W4.heap.size = B + 5 := by
  generalize hw1 : W.alloc (.cells (madeCells #[z1] n) t1) = w1 at h4
  generalize hw2 : w1.alloc (.cells (madeCells #[z2] n) t2) = w2 at h4
  generalize hw3 : w2.alloc (.cells (madeCells #[z3] n) t3) = w3 at h4
  have s1 : w1.heap.size = B + 2 := by rw [← hw1]; simp [hs]
  have s2 : w2.heap.size = B + 3 := by rw [← hw2]; simp [s1]
  have s3 : w3.heap.size = B + 4 := by rw [← hw3]; simp [s2]
  have e1 : Arr w1 (B + 1) t1 n (fun _ => z1) := by rw [← hw1, ← hs]; exact Arr.ofMade W n z1 t1
  have e2 : Arr w2 (B + 2) t2 n (fun _ => z2) := by rw [← hw2, ← s1]; exact Arr.ofMade w1 n z2 t2
  have e3 : Arr w3 (B + 3) t3 n (fun _ => z3) := by rw [← hw3, ← s2]; exact Arr.ofMade w2 n z3 t3
  have f2 : ∀ x, x < B + 2 → w2.heap[x]? = w1.heap[x]? := fun x hx => by rw [← hw2]; exact Below.heap_alloc _ _ _ (by omega)
  have f3 : ∀ x, x < B + 3 → w3.heap[x]? = w2.heap[x]? := fun x hx => by rw [← hw3]; exact Below.heap_alloc _ _ _ (by omega)
  have f4 : ∀ x, x < B + 4 → W4.heap[x]? = w3.heap[x]? := fun x hx => by rw [h4]; exact Below.heap_alloc _ _ _ (by omega)
  have f1 : ∀ x, x < B + 1 → w1.heap[x]? = W.heap[x]? := fun x hx => by rw [← hw1]; exact Below.heap_alloc _ _ _ (by omega)
  refine ⟨((e1.of_block (f2 _ (by omega))).of_block (f3 _ (by omega))).of_block (f4 _ (by omega)), (e2.of_block (f3 _ (by omega))).of_block (f4 _ (by omega)), e3.of_block (f4 _ (by omega)), ?_, (((hIn.of_block (f1 _ (by omega))).of_block (f2 _ (by omega))).of_block (f3 _ (by omega))).of_block (f4 _ (by omega)), ?_, ?_⟩
  · rw [h4, ← s3]
    refine ⟨_, heap_alloc_new w3 _, rfl, fun c hc => ?_⟩
    have : c = 0 ∨ c = 1 ∨ c = 2 ∨ c = 3 ∨ c = 4 ∨ c = 5 ∨ c = 6 ∨ c = 7 := by omega
    rcases this with rfl | rfl | rfl | rfl | rfl | rfl | rfl | rfl <;> rfl
  · rw [h4]
    refine (Below.alloc ?_ (by omega) _).drew
    rw [← hw3]
    refine Below.alloc ?_ (by omega) _
    rw [← hw2]
    refine Below.alloc ?_ (by omega) _
    rw [← hw1]
    exact hB.alloc (by omega) _
  · rw [h4]
    show (w3.alloc _).heap.size = _
    simp [s3]

/-- The cells of a row of kept messages. -/
def kc (X : Nat → Nat → Int) (c j : Nat) : Int := if j % 2 = 0 then X c (j / 2) else 10000 * (c : Int) + ((j / 2 : Nat) : Int)

/-- What stands while the rows are filled: each row up to its own index. -/
structure St (w wr : World) (B n bB bK bD : Nat) (gIn gH : Nat → Value) (bt : Nat → Int) (dr : Nat → Bool) (lK : Nat) (L : Nat → Nat) (X : Nat → Nat → Int) (jB jD jD0 jB0 jR jK top : Nat) : Prop where
  inn : Arr wr B 26 8 gIn
  hold : Arr wr (B + 4) 34 8 gH
  beat : Arr wr bB 3 n (fun c => .int .i64 (if c < jB then bt c else 0))
  kept : Arr wr bK 36 n (fun c => if c < jK ∧ c < lK then .slice (some ⟨B + 8 + 2 * c + 1, 0, none⟩) (L c) (L c) else .slice none 0 0)
  drop : Arr wr bD 4 n (fun c => .bool (if c < jD then dr c else false))
  rnds : Arr wr (B + 5) 28 n (fun c => if c < jR ∧ c < lK then .slice (some ⟨B + 8 + 2 * c, 0, none⟩) (L c) (L c) else .slice none 0 0)
  d0 : Arr wr (B + 6) 4 n (fun c => .bool (if c < jD0 then dr c else false))
  b0 : Arr wr (B + 7) 3 n (fun c => .int .i64 (if c < jB0 then bt c else 0))
  rows : ∀ c, c < jR → c < lK → Arr wr (B + 8 + 2 * c) 3 (L c) (fun j => .int .i64 (X c j)) ∧ Arr wr (B + 8 + 2 * c + 1) 38 (2 * L c) (fun j => .int .i64 (kc X c j))
  size : wr.heap.size = B + 8 + top
  low : Below B w wr
  pB : B + 1 ≤ bB ∧ bB ≤ B + 3
  pK : B + 1 ≤ bK ∧ bK ≤ B + 3
  pD : B + 1 ≤ bD ∧ bD ≤ B + 3
  pBK : bB ≠ bK
  pBD : bB ≠ bD
  pKD : bK ≠ bD

end Go.Proofs.Ybulkbowq
