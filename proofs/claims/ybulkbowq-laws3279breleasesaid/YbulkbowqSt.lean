/-
  The rows as they are filled, one store a step. No walk.
-/
import Derived.Test.YbulkbowqAid
namespace Go.Proofs.Ybulkbowq
open Go.RowKit

/-- wr' is wr but for block b. -/
def But (wr wr' : World) (b : Nat) : Prop := (∀ g, g ≠ b → wr'.heap[g]? = wr.heap[g]?) ∧ wr'.heap.size = wr.heap.size ∧ ∀ B, B ≤ b → Below B wr wr'
theorem But.set (wr : World) (b o : Nat) (v : Value) : But wr (wr.setCell ⟨b, o, none⟩ v) b :=
  ⟨fun g hg => Below.heap_setCell _ _ _ _ hg, by simp [World.setCell], fun B hB => (Below.refl B wr).setCell hB v⟩
theorem But.drew {wr wr' : World} {b : Nat} (h : But wr wr' b) : But wr wr'.drew b := ⟨fun g hg => h.1 g hg, h.2.1, fun B hB => (h.2.2 B hB).drew⟩

section
variable {w wr wr' : World} {B n bB bK bD : Nat} {gIn gH : Nat → Value} {bt : Nat → Int} {dr : Nat → Bool} {lK : Nat} {L : Nat → Nat} {X : Nat → Nat → Int} {jB jD jD0 jB0 jR jK top : Nat}

theorem St.drew (h : St w wr B n bB bK bD gIn gH bt dr lK L X jB jD jD0 jB0 jR jK top) : St w wr.drew B n bB bK bD gIn gH bt dr lK L X jB jD jD0 jB0 jR jK top where
  inn := h.inn.of_block rfl
  hold := h.hold.of_block rfl
  beat := h.beat.of_block rfl
  kept := h.kept.of_block rfl
  drop := h.drop.of_block rfl
  rnds := h.rnds.of_block rfl
  d0 := h.d0.of_block rfl
  b0 := h.b0.of_block rfl
  rows := fun c h1 h2 => ⟨(h.rows c h1 h2).1.of_block rfl, (h.rows c h1 h2).2.of_block rfl⟩
  size := h.size
  low := h.low.drew
  pB := h.pB
  pK := h.pK
  pD := h.pD
  pBK := h.pBK
  pBD := h.pBD
  pKD := h.pKD

theorem St.put_beat (h : St w wr B n bB bK bD gIn gH bt dr lK L X jB jD jD0 jB0 jR jK top) (s : But wr wr' bB) (J : Nat) (new : Arr wr' bB 3 n (fun c => .int .i64 (if c < J then bt c else 0))) :
    St w wr' B n bB bK bD gIn gH bt dr lK L X J jD jD0 jB0 jR jK top := by
  have q1 := h.pB
  have q2 := h.pK
  have q3 := h.pD
  have q4 := h.pBK
  have q5 := h.pBD
  have q6 := h.pKD
  exact
    { inn := h.inn.of_block (s.1 _ (by omega))
      hold := h.hold.of_block (s.1 _ (by omega))
      beat := new
      kept := h.kept.of_block (s.1 _ (by omega))
      drop := h.drop.of_block (s.1 _ (by omega))
      rnds := h.rnds.of_block (s.1 _ (by omega))
      d0 := h.d0.of_block (s.1 _ (by omega))
      b0 := h.b0.of_block (s.1 _ (by omega))
      rows := fun c h1 h2 => ⟨(h.rows c h1 h2).1.of_block (s.1 _ (by omega)), (h.rows c h1 h2).2.of_block (s.1 _ (by omega))⟩
      size := s.2.1.trans h.size
      low := h.low.trans (s.2.2 B (by omega))
      pB := q1
      pK := q2
      pD := q3
      pBK := q4
      pBD := q5
      pKD := q6 }

theorem St.bump_beat (h : St w wr B n bB bK bD gIn gH bt dr lK L X jB jD jD0 jB0 jR jK top) : St w (wr.setCell ⟨bB, jB, none⟩ (.int .i64 (bt jB))) B n bB bK bD gIn gH bt dr lK L X (jB + 1) jD jD0 jB0 jR jK top := by
  refine h.put_beat (But.set wr _ _ _) (jB + 1) ((h.beat.set jB _).congr fun c _ => ?_)
  by_cases e : c = jB
  · subst e; rw [fupd_same, if_pos (by omega)]
  · rw [fupd_other _ _ e]
    by_cases h1 : c < jB
    · rw [if_pos h1, if_pos (by omega)]
    · rw [if_neg h1, if_neg (by omega)]

theorem St.skip_beat (h : St w wr B n bB bK bD gIn gH bt dr lK L X jB jD jD0 jB0 jR jK top) (hz : bt jB = 0) : St w wr B n bB bK bD gIn gH bt dr lK L X (jB + 1) jD jD0 jB0 jR jK top := by
  refine { h with beat := h.beat.congr fun c _ => ?_ }
  by_cases e : c = jB
  · subst e; rw [if_neg (Nat.lt_irrefl _), if_pos (by omega), hz]
  · by_cases h1 : c < jB
    · rw [if_pos h1, if_pos (by omega)]
    · rw [if_neg h1, if_neg (by omega)]

theorem St.put_drop (h : St w wr B n bB bK bD gIn gH bt dr lK L X jB jD jD0 jB0 jR jK top) (s : But wr wr' bD) (J : Nat) (new : Arr wr' bD 4 n (fun c => .bool (if c < J then dr c else false))) :
    St w wr' B n bB bK bD gIn gH bt dr lK L X jB J jD0 jB0 jR jK top := by
  have q1 := h.pB
  have q2 := h.pK
  have q3 := h.pD
  have q4 := h.pBK
  have q5 := h.pBD
  have q6 := h.pKD
  exact
    { inn := h.inn.of_block (s.1 _ (by omega))
      hold := h.hold.of_block (s.1 _ (by omega))
      beat := h.beat.of_block (s.1 _ (by omega))
      kept := h.kept.of_block (s.1 _ (by omega))
      drop := new
      rnds := h.rnds.of_block (s.1 _ (by omega))
      d0 := h.d0.of_block (s.1 _ (by omega))
      b0 := h.b0.of_block (s.1 _ (by omega))
      rows := fun c h1 h2 => ⟨(h.rows c h1 h2).1.of_block (s.1 _ (by omega)), (h.rows c h1 h2).2.of_block (s.1 _ (by omega))⟩
      size := s.2.1.trans h.size
      low := h.low.trans (s.2.2 B (by omega))
      pB := q1
      pK := q2
      pD := q3
      pBK := q4
      pBD := q5
      pKD := q6 }

theorem St.bump_drop (h : St w wr B n bB bK bD gIn gH bt dr lK L X jB jD jD0 jB0 jR jK top) : St w (wr.setCell ⟨bD, jD, none⟩ (.bool (dr jD))) B n bB bK bD gIn gH bt dr lK L X jB (jD + 1) jD0 jB0 jR jK top := by
  refine h.put_drop (But.set wr _ _ _) (jD + 1) ((h.drop.set jD _).congr fun c _ => ?_)
  by_cases e : c = jD
  · subst e; rw [fupd_same, if_pos (by omega)]
  · rw [fupd_other _ _ e]
    by_cases h1 : c < jD
    · rw [if_pos h1, if_pos (by omega)]
    · rw [if_neg h1, if_neg (by omega)]

theorem St.skip_drop (h : St w wr B n bB bK bD gIn gH bt dr lK L X jB jD jD0 jB0 jR jK top) (hz : dr jD = false) : St w wr B n bB bK bD gIn gH bt dr lK L X jB (jD + 1) jD0 jB0 jR jK top := by
  refine { h with drop := h.drop.congr fun c _ => ?_ }
  by_cases e : c = jD
  · subst e; rw [if_neg (Nat.lt_irrefl _), if_pos (by omega), hz]
  · by_cases h1 : c < jD
    · rw [if_pos h1, if_pos (by omega)]
    · rw [if_neg h1, if_neg (by omega)]

theorem St.put_d0 (h : St w wr B n bB bK bD gIn gH bt dr lK L X jB jD jD0 jB0 jR jK top) (s : But wr wr' (B + 6)) (J : Nat) (new : Arr wr' (B + 6) 4 n (fun c => .bool (if c < J then dr c else false))) :
    St w wr' B n bB bK bD gIn gH bt dr lK L X jB jD J jB0 jR jK top := by
  have q1 := h.pB
  have q2 := h.pK
  have q3 := h.pD
  have q4 := h.pBK
  have q5 := h.pBD
  have q6 := h.pKD
  exact
    { inn := h.inn.of_block (s.1 _ (by omega))
      hold := h.hold.of_block (s.1 _ (by omega))
      beat := h.beat.of_block (s.1 _ (by omega))
      kept := h.kept.of_block (s.1 _ (by omega))
      drop := h.drop.of_block (s.1 _ (by omega))
      rnds := h.rnds.of_block (s.1 _ (by omega))
      d0 := new
      b0 := h.b0.of_block (s.1 _ (by omega))
      rows := fun c h1 h2 => ⟨(h.rows c h1 h2).1.of_block (s.1 _ (by omega)), (h.rows c h1 h2).2.of_block (s.1 _ (by omega))⟩
      size := s.2.1.trans h.size
      low := h.low.trans (s.2.2 B (by omega))
      pB := q1
      pK := q2
      pD := q3
      pBK := q4
      pBD := q5
      pKD := q6 }

theorem St.bump_d0 (h : St w wr B n bB bK bD gIn gH bt dr lK L X jB jD jD0 jB0 jR jK top) : St w (wr.setCell ⟨B + 6, jD0, none⟩ (.bool (dr jD0))) B n bB bK bD gIn gH bt dr lK L X jB jD (jD0 + 1) jB0 jR jK top := by
  refine h.put_d0 (But.set wr _ _ _) (jD0 + 1) ((h.d0.set jD0 _).congr fun c _ => ?_)
  by_cases e : c = jD0
  · subst e; rw [fupd_same, if_pos (by omega)]
  · rw [fupd_other _ _ e]
    by_cases h1 : c < jD0
    · rw [if_pos h1, if_pos (by omega)]
    · rw [if_neg h1, if_neg (by omega)]

theorem St.put_b0 (h : St w wr B n bB bK bD gIn gH bt dr lK L X jB jD jD0 jB0 jR jK top) (s : But wr wr' (B + 7)) (J : Nat) (new : Arr wr' (B + 7) 3 n (fun c => .int .i64 (if c < J then bt c else 0))) :
    St w wr' B n bB bK bD gIn gH bt dr lK L X jB jD jD0 J jR jK top := by
  have q1 := h.pB
  have q2 := h.pK
  have q3 := h.pD
  have q4 := h.pBK
  have q5 := h.pBD
  have q6 := h.pKD
  exact
    { inn := h.inn.of_block (s.1 _ (by omega))
      hold := h.hold.of_block (s.1 _ (by omega))
      beat := h.beat.of_block (s.1 _ (by omega))
      kept := h.kept.of_block (s.1 _ (by omega))
      drop := h.drop.of_block (s.1 _ (by omega))
      rnds := h.rnds.of_block (s.1 _ (by omega))
      d0 := h.d0.of_block (s.1 _ (by omega))
      b0 := new
      rows := fun c h1 h2 => ⟨(h.rows c h1 h2).1.of_block (s.1 _ (by omega)), (h.rows c h1 h2).2.of_block (s.1 _ (by omega))⟩
      size := s.2.1.trans h.size
      low := h.low.trans (s.2.2 B (by omega))
      pB := q1
      pK := q2
      pD := q3
      pBK := q4
      pBD := q5
      pKD := q6 }

theorem St.bump_b0 (h : St w wr B n bB bK bD gIn gH bt dr lK L X jB jD jD0 jB0 jR jK top) : St w (wr.setCell ⟨B + 7, jB0, none⟩ (.int .i64 (bt jB0))) B n bB bK bD gIn gH bt dr lK L X jB jD jD0 (jB0 + 1) jR jK top := by
  refine h.put_b0 (But.set wr _ _ _) (jB0 + 1) ((h.b0.set jB0 _).congr fun c _ => ?_)
  by_cases e : c = jB0
  · subst e; rw [fupd_same, if_pos (by omega)]
  · rw [fupd_other _ _ e]
    by_cases h1 : c < jB0
    · rw [if_pos h1, if_pos (by omega)]
    · rw [if_neg h1, if_neg (by omega)]

theorem St.put_rnds (h : St w wr B n bB bK bD gIn gH bt dr lK L X jB jD jD0 jB0 jR jK top) (s : But wr wr' (B + 5)) (J : Nat) (new : Arr wr' (B + 5) 28 n (fun c => if c < J ∧ c < lK then .slice (some ⟨B + 8 + 2 * c, 0, none⟩) (L c) (L c) else .slice none 0 0)) (hrow : ∀ c, c < J → c < lK → Arr wr' (B + 8 + 2 * c) 3 (L c) (fun j => .int .i64 (X c j)) ∧ Arr wr' (B + 8 + 2 * c + 1) 38 (2 * L c) (fun j => .int .i64 (kc X c j))) :
    St w wr' B n bB bK bD gIn gH bt dr lK L X jB jD jD0 jB0 J jK top := by
  have q1 := h.pB
  have q2 := h.pK
  have q3 := h.pD
  have q4 := h.pBK
  have q5 := h.pBD
  have q6 := h.pKD
  exact
    { inn := h.inn.of_block (s.1 _ (by omega))
      hold := h.hold.of_block (s.1 _ (by omega))
      beat := h.beat.of_block (s.1 _ (by omega))
      kept := h.kept.of_block (s.1 _ (by omega))
      drop := h.drop.of_block (s.1 _ (by omega))
      rnds := new
      d0 := h.d0.of_block (s.1 _ (by omega))
      b0 := h.b0.of_block (s.1 _ (by omega))
      rows := hrow
      size := s.2.1.trans h.size
      low := h.low.trans (s.2.2 B (by omega))
      pB := q1
      pK := q2
      pD := q3
      pBK := q4
      pBD := q5
      pKD := q6 }

theorem St.put_kept (h : St w wr B n bB bK bD gIn gH bt dr lK L X jB jD jD0 jB0 jR jK top) (s : But wr wr' bK) (J : Nat) (new : Arr wr' bK 36 n (fun c => if c < J ∧ c < lK then .slice (some ⟨B + 8 + 2 * c + 1, 0, none⟩) (L c) (L c) else .slice none 0 0)) :
    St w wr' B n bB bK bD gIn gH bt dr lK L X jB jD jD0 jB0 jR J top := by
  have q1 := h.pB
  have q2 := h.pK
  have q3 := h.pD
  have q4 := h.pBK
  have q5 := h.pBD
  have q6 := h.pKD
  exact
    { inn := h.inn.of_block (s.1 _ (by omega))
      hold := h.hold.of_block (s.1 _ (by omega))
      beat := h.beat.of_block (s.1 _ (by omega))
      kept := new
      drop := h.drop.of_block (s.1 _ (by omega))
      rnds := h.rnds.of_block (s.1 _ (by omega))
      d0 := h.d0.of_block (s.1 _ (by omega))
      b0 := h.b0.of_block (s.1 _ (by omega))
      rows := fun c h1 h2 => ⟨(h.rows c h1 h2).1.of_block (s.1 _ (by omega)), (h.rows c h1 h2).2.of_block (s.1 _ (by omega))⟩
      size := s.2.1.trans h.size
      low := h.low.trans (s.2.2 B (by omega))
      pB := q1
      pK := q2
      pD := q3
      pBK := q4
      pBD := q5
      pKD := q6 }

end

end Go.Proofs.Ybulkbowq
