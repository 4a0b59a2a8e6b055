/-
  The rows as they are filled: new rows, the rows of one queue. No walk.
-/
import Derived.Test.YbulkbowqSt
namespace Go.Proofs.Ybulkbowq
open Go.RowKit

section
variable {w wr wr' : World} {B n bB bK bD : Nat} {gIn gH : Nat → Value} {bt : Nat → Int} {dr : Nat → Bool} {lK : Nat} {L : Nat → Nat} {X : Nat → Nat → Int} {jB jD jD0 jB0 jR jK top : Nat}

theorem St.alloc (h : St w wr B n bB bK bD gIn gH bt dr lK L X jB jD jD0 jB0 jR jK top) (htop : ∀ c, c < jR → c < lK → 2 * c + 2 ≤ top) (o : Obj) : St w (wr.alloc o) B n bB bK bD gIn gH bt dr lK L X jB jD jD0 jB0 jR jK (top + 1) := by
  have q1 := h.pB
  have q2 := h.pK
  have q3 := h.pD
  have sz := h.size
  have low : ∀ x, x < B + 8 + top → (wr.alloc o).heap[x]? = wr.heap[x]? := fun x hx => Below.heap_alloc _ _ _ (by omega)
  exact
    { inn := h.inn.of_block (low _ (by omega))
      hold := h.hold.of_block (low _ (by omega))
      beat := h.beat.of_block (low _ (by omega))
      kept := h.kept.of_block (low _ (by omega))
      drop := h.drop.of_block (low _ (by omega))
      rnds := h.rnds.of_block (low _ (by omega))
      d0 := h.d0.of_block (low _ (by omega))
      b0 := h.b0.of_block (low _ (by omega))
      rows := fun c h1 h2 => ⟨(h.rows c h1 h2).1.of_block (low _ (by have := htop c h1 h2; omega)), (h.rows c h1 h2).2.of_block (low _ (by have := htop c h1 h2; omega))⟩
      size := by simp [sz]; omega
      low := h.low.alloc (by omega) _
      pB := q1
      pK := q2
      pD := q3
      pBK := h.pBK
      pBD := h.pBD
      pKD := h.pKD }

theorem St.keep (h : St w wr B n bB bK bD gIn gH bt dr lK L X jB jD jD0 jB0 jR jK top) {b : Nat} (s : But wr wr' b) (hb : B + 8 ≤ b) (hr : ∀ c, c < jR → c < lK → b ≠ B + 8 + 2 * c ∧ b ≠ B + 8 + 2 * c + 1) :
    St w wr' B n bB bK bD gIn gH bt dr lK L X jB jD jD0 jB0 jR jK top := by
  have q1 := h.pB
  have q2 := h.pK
  have q3 := h.pD
  exact
    { inn := h.inn.of_block (s.1 _ (by omega))
      hold := h.hold.of_block (s.1 _ (by omega))
      beat := h.beat.of_block (s.1 _ (by omega))
      kept := h.kept.of_block (s.1 _ (by omega))
      drop := h.drop.of_block (s.1 _ (by omega))
      rnds := h.rnds.of_block (s.1 _ (by omega))
      d0 := h.d0.of_block (s.1 _ (by omega))
      b0 := h.b0.of_block (s.1 _ (by omega))
      rows := fun c h1 h2 => ⟨(h.rows c h1 h2).1.of_block (s.1 _ (Ne.symm (hr c h1 h2).1)), (h.rows c h1 h2).2.of_block (s.1 _ (Ne.symm (hr c h1 h2).2))⟩
      size := s.2.1.trans h.size
      low := h.low.trans (s.2.2 B (by omega))
      pB := q1
      pK := q2
      pD := q3
      pBK := h.pBK
      pBD := h.pBD
      pKD := h.pKD }

/-- The round of queue i: its two rows made, j elements filled. -/
def Fill (w wr : World) (B n bB bK bD : Nat) (gIn gH : Nat → Value) (bt : Nat → Int) (dr : Nat → Bool) (lK : Nat) (L : Nat → Nat) (X : Nat → Nat → Int) (i j j2 : Nat) : Prop :=
  St w wr B n bB bK bD gIn gH bt dr lK L X (i + 1) (i + 1) (i + 1) (i + 1) i i (2 * i + 2) ∧ Arr wr (B + 8 + 2 * i) 3 (L i) (fun c => .int .i64 (if c < j then X i c else 0)) ∧
    Arr wr (B + 8 + 2 * i + 1) 38 (2 * L i) (fun c => .int .i64 (if c < 2 * j2 then kc X i c else 0))

theorem fill_start {i : Nat} (h : St w wr B n bB bK bD gIn gH bt dr lK L X (i + 1) (i + 1) (i + 1) (i + 1) i i (2 * i)) :
    Fill w ((wr.alloc (.cells (madeCells #[.int .i64 0] (L i)) 3)).alloc (.cells (madeCells #[.int .i64 0, .int .i64 0] (L i * 2)) 38)) B n bB bK bD gIn gH bt dr lK L X i 0 0 := by
  have sz := h.size
  have h1 := h.alloc (fun c h1 h2 => by omega) (.cells (madeCells #[.int .i64 0] (L i)) 3)
  have sz1 := h1.size
  have h2 := h1.alloc (fun c h1 h2 => by omega) (.cells (madeCells #[.int .i64 0, .int .i64 0] (L i * 2)) 38)
  refine ⟨h2, ?_, ?_⟩
  · have e := Arr.ofMade wr (L i) (.int .i64 0) 3
    rw [sz] at e
    refine (e.of_block (Below.heap_alloc _ _ _ (by rw [sz1]; omega))).congr fun c _ => ?_
    rw [if_neg (by omega)]
  · have e := Arr.ofMade2 (wr.alloc (.cells (madeCells #[.int .i64 0] (L i)) 3)) (L i) 38
    rw [sz1] at e
    rw [show B + 8 + 2 * i + 1 = B + 8 + (2 * i + 1) by omega]
    refine e.congr fun c _ => ?_
    rw [if_neg (by omega)]

theorem Fill.put1 {i j : Nat} (h : Fill w wr B n bB bK bD gIn gH bt dr lK L X i j j) : Fill w (wr.setCell ⟨B + 8 + 2 * i, j, none⟩ (.int .i64 (X i j))) B n bB bK bD gIn gH bt dr lK L X i (j + 1) j := by
  obtain ⟨h1, h2, h3⟩ := h
  refine ⟨h1.keep (But.set wr _ _ _) (by omega) (fun c hc _ => ⟨by omega, by omega⟩), (h2.set j _).congr fun c _ => ?_, h3.set_other (by show B + 8 + 2 * i + 1 ≠ B + 8 + 2 * i; omega) _⟩
  by_cases e : c = j
  · subst e; rw [fupd_same, if_pos (by omega)]
  · rw [fupd_other _ _ e]
    by_cases h1 : c < j
    · rw [if_pos h1, if_pos (by omega)]
    · rw [if_neg h1, if_neg (by omega)]

theorem Fill.put2 {i j : Nat} (h : Fill w wr B n bB bK bD gIn gH bt dr lK L X i (j + 1) j) :
    Fill w ((wr.setCell ⟨B + 8 + 2 * i + 1, j * 2, none⟩ (.int .i64 (X i j))).setCell ⟨B + 8 + 2 * i + 1, j * 2 + 1, none⟩ (.int .i64 (10000 * (i : Int) + (j : Int)))) B n bB bK bD gIn gH bt dr lK L X i (j + 1) (j + 1) := by
  obtain ⟨h1, h2, h3⟩ := h
  refine ⟨(h1.keep (But.set wr _ _ _) (by omega) (fun c hc _ => ⟨by omega, by omega⟩)).keep (But.set _ _ _ _) (by omega) (fun c hc _ => ⟨by omega, by omega⟩), (h2.set_other (by show B + 8 + 2 * i ≠ B + 8 + 2 * i + 1; omega) _).set_other (by show B + 8 + 2 * i ≠ B + 8 + 2 * i + 1; omega) _,
    ((h3.set (j * 2) _).set (j * 2 + 1) _).congr fun c _ => ?_⟩
  by_cases e1 : c = j * 2 + 1
  · subst e1
    rw [fupd_same, if_pos (by omega), kc, if_neg (by omega), show (j * 2 + 1) / 2 = j by omega]
  · rw [fupd_other _ _ e1]
    by_cases e2 : c = j * 2
    · subst e2
      rw [fupd_same, if_pos (by omega), kc, if_pos (by omega), show j * 2 / 2 = j by omega]
    · rw [fupd_other _ _ e2]
      by_cases h1 : c < 2 * j
      · rw [if_pos h1, if_pos (by omega)]
      · rw [if_neg h1, if_neg (by omega)]

theorem Fill.done {i : Nat} (h : Fill w wr B n bB bK bD gIn gH bt dr lK L X i (L i) (L i)) (hi : i < lK) :
    St w ((wr.setCell ⟨B + 5, i, none⟩ (.slice (some ⟨B + 8 + 2 * i, 0, none⟩) (L i) (L i))).setCell ⟨bK, i, none⟩ (.slice (some ⟨B + 8 + 2 * i + 1, 0, none⟩) (L i) (L i))) B n bB bK bD gIn gH bt dr lK L X (i + 1) (i + 1) (i + 1) (i + 1) (i + 1) (i + 1) (2 * i + 2) := by
  obtain ⟨h1, h2, h3⟩ := h
  have q2 := h1.pK
  have hA : St w (wr.setCell ⟨B + 5, i, none⟩ (.slice (some ⟨B + 8 + 2 * i, 0, none⟩) (L i) (L i))) B n bB bK bD gIn gH bt dr lK L X (i + 1) (i + 1) (i + 1) (i + 1) (i + 1) i (2 * i + 2) := by
    have s := But.set wr (B + 5) i (.slice (some ⟨B + 8 + 2 * i, 0, none⟩) (L i) (L i))
    refine h1.put_rnds s (i + 1) ((h1.rnds.set i _).congr fun c _ => ?_) (fun c hc hcl => ?_)
    · by_cases e : c = i
      · subst e; rw [fupd_same, if_pos ⟨by omega, hi⟩]
      · rw [fupd_other _ _ e]
        by_cases h1 : c < i ∧ c < lK
        · rw [if_pos h1, if_pos ⟨by omega, h1.2⟩]
        · rw [if_neg h1, if_neg (by omega)]
    · by_cases e : c = i
      · subst e
        refine ⟨(h2.of_block (s.1 _ (by omega))).congr fun j hj => ?_, (h3.of_block (s.1 _ (by omega))).congr fun j hj => ?_⟩
        · rw [if_pos hj]
        · rw [if_pos hj]
      · have := h1.rows c (by omega) hcl
        exact ⟨this.1.of_block (s.1 _ (by omega)), this.2.of_block (s.1 _ (by omega))⟩
  refine hA.put_kept (But.set _ _ _ _) (i + 1) ((hA.kept.set i _).congr fun c _ => ?_)
  by_cases e : c = i
  · subst e; rw [fupd_same, if_pos ⟨by omega, hi⟩]
  · rw [fupd_other _ _ e]
    by_cases h1 : c < i ∧ c < lK
    · rw [if_pos h1, if_pos ⟨by omega, h1.2⟩]
    · rw [if_neg h1, if_neg (by omega)]

theorem St.skip_rows {i : Nat} (h : St w wr B n bB bK bD gIn gH bt dr lK L X (i + 1) (i + 1) (i + 1) (i + 1) i i top) (hi : ¬ i < lK) : St w wr B n bB bK bD gIn gH bt dr lK L X (i + 1) (i + 1) (i + 1) (i + 1) (i + 1) (i + 1) top := by
  refine { h with rnds := h.rnds.congr fun c _ => ?_, kept := h.kept.congr fun c _ => ?_, rows := fun c h1 h2 => h.rows c (by omega) h2 }
  · by_cases h1 : c < i ∧ c < lK
    · rw [if_pos h1, if_pos (by omega)]
    · rw [if_neg h1, if_neg (by omega)]
  · by_cases h1 : c < i ∧ c < lK
    · rw [if_pos h1, if_pos (by omega)]
    · rw [if_neg h1, if_neg (by omega)]

end
end Go.Proofs.Ybulkbowq
