/-
  The messages let through: a slice that the call owns, its place in the hold; one more of them.
-/
import Derived.Test.YbulkbowqArr
import Derived.Maps.AppendAt
namespace Go.Proofs.Ybulkbowq
open Go.RowKit

theorem info40 : ∃ i, Yba.prog.info? 40 = some i ∧ i.zero = some (.agg #[.int .i64 0, .int .i64 0]) ∧ i.size = 2 ∧ i.bytes = 16 := by
  have h : (Yba.prog.info? 40).map (fun i => (i.zero, i.size, i.bytes)) = some (some (.agg #[.int .i64 0, .int .i64 0]), 2, 16) := by kernel_rfl
  obtain ⟨i, hi, e⟩ := Option.map_eq_some_iff.1 h
  simp only [Prod.mk.injEq] at e
  exact ⟨i, hi, e.1, e.2.1, e.2.2⟩

def flat (ps : List (Int × Int)) : List Value := ps.flatMap fun p => [.int .i64 p.1, .int .i64 p.2]
theorem flat_snoc (ps : List (Int × Int)) (p : Int × Int) : flat (ps ++ [p]) = flat ps ++ [.int .i64 p.1, .int .i64 p.2] := by simp [flat]
theorem flat_len (ps : List (Int × Int)) : (flat ps).length = ps.length * 2 := by
  induction ps with
  | nil => rfl
  | cons p r ih =>
    have : flat (p :: r) = [.int .i64 p.1, .int .i64 p.2] ++ flat r := rfl
    rw [this, List.length_append, ih]
    simp
    omega
theorem flat_get : ∀ (ps : List (Int × Int)) (j : Nat) (p : Int × Int), ps[j]? = some p → (flat ps)[j * 2]? = some (.int .i64 p.1) ∧ (flat ps)[j * 2 + 1]? = some (.int .i64 p.2)
  | [], j, p, h => by simp at h
  | q :: r, 0, p, h => by
    simp only [List.getElem?_cons_zero, Option.some.injEq] at h
    subst h
    exact ⟨rfl, rfl⟩
  | q :: r, j + 1, p, h => by
    rw [List.getElem?_cons_succ] at h
    have := flat_get r j p h
    have e : flat (q :: r) = .int .i64 q.1 :: .int .i64 q.2 :: flat r := rfl
    rw [e, show (j + 1) * 2 = j * 2 + 1 + 1 by omega]
    exact this

/-- The slice v owns the messages ps, in a block from base on. -/
def Rdy (w : World) (base : Nat) (v : Value) (ps : List (Int × Int)) : Prop := w.ownsRow base 40 2 v ps.length (flat ps)

theorem Rdy.nil (w : World) (base : Nat) : Rdy w base (.slice none 0 0) [] := World.ownsRow_nil _ _ _ _
theorem Rdy.of_heap {w w' : World} {base : Nat} {v : Value} {xs : List (Int × Int)} (h : Rdy w base v xs) (hh : ∀ g, v.ownBlock = some g → w'.heap[g]? = w.heap[g]?) : Rdy w' base v xs := by
  refine ⟨h.1, ?_⟩
  rcases h.2 with h2 | ⟨g, cap, cur, rfl, hb, hg, r⟩
  · exact .inl h2
  · exact .inr ⟨g, cap, cur, rfl, hb, by rw [hh g rfl]; exact hg, r⟩

theorem Rdy.shape {w : World} {base : Nat} {v : Value} {xs : List (Int × Int)} (h : Rdy w base v xs) : ∃ a c, v = .slice a xs.length c := by
  rcases h.2 with ⟨rfl, h0⟩ | ⟨g, cap, cur, rfl, _⟩
  · exact ⟨none, 0, by rw [h0]⟩
  · exact ⟨_, _, rfl⟩

theorem Rdy.cells {w : World} {base : Nat} {v : Value} {xs : List (Int × Int)} (h : Rdy w base v xs) (h0 : 0 < xs.length) :
    ∃ g c, v = .slice (some ⟨g, 0, none⟩) xs.length c ∧ ∀ j p, xs[j]? = some p → w.cell? ⟨g, j * 2, none⟩ = some (.int .i64 p.1) ∧ w.cell? ⟨g, j * 2 + 1, none⟩ = some (.int .i64 p.2) := by
  rcases h.2 with ⟨rfl, h1⟩ | ⟨g, cap, cur, rfl, r⟩
  · omega
  · refine ⟨g, cap, rfl, fun j p hj => ?_⟩
    have hlt := (List.getElem?_eq_some_iff.1 hj).1
    have hf := flat_get xs j p hj
    have h' : w.ownsRow base 40 2 (.slice (some ⟨g, 0, none⟩) xs.length cap) xs.length (flat xs) := h
    exact ⟨(h'.cellAt (j * 2) (by omega)).trans hf.1, (h'.cellAt (j * 2 + 1) (by omega)).trans hf.2⟩

/-- The hold at block H: its cells g, the messages ps let through in its cell 7; nothing else below base has turned since w0. -/
def HS (w0 wr : World) (H base : Nat) (g : Nat → Value) (ps : List (Int × Int)) (rv : Value) : Prop :=
  Arr wr H 34 8 (fupd g 7 rv) ∧ Rdy wr base rv ps ∧ base ≤ wr.heap.size ∧ (∀ x, x < base → x ≠ H → wr.heap[x]? = w0.heap[x]?) ∧ ∀ B, B ≤ H → B ≤ base → Below B w0 wr

theorem HS.drew {w0 wr : World} {H base : Nat} {g : Nat → Value} {ps : List (Int × Int)} {rv : Value} (h : HS w0 wr H base g ps rv) : HS w0 wr.drew H base g ps rv :=
  ⟨h.1.of_block rfl, h.2.1.of_heap fun _ _ => rfl, h.2.2.1, fun x hx hne => h.2.2.2.1 x hx hne, fun B h1 h2 => (h.2.2.2.2 B h1 h2).drew⟩

theorem fupd_twice {α : Type} (f : Nat → α) (c : Nat) (u v : α) : fupd (fupd f c u) c v = fupd f c v := by
  funext i
  by_cases h : i = c
  · subst h; simp [fupd]
  · simp [fupd, h]

theorem push {w0 wr : World} {H base : Nat} {g : Nat → Value} {ps : List (Int × Int)} {rv : Value} (h : HS w0 wr H base g ps rv) (hH : H < base) (a b : Int) (hl : ps.length ≤ 4096) :
    ∃ av nv cv w5, (Builtin.append_ #[32, 32] 32 #[rv, .slice (some ⟨wr.heap.size, 0, none⟩) 1 1]).run Yba.prog (wr.alloc (.cells #[.int .i64 a, .int .i64 b] 40)) = .ok (.slice av nv cv) w5 ∧
      w5.cell? ⟨H, 7, none⟩ = some rv ∧ w5.frozen? ⟨H, 7, none⟩ = false ∧ HS w0 (w5.setCell ⟨H, 7, none⟩ (.slice av nv cv)) H base g (ps ++ [(a, b)]) (.slice av nv cv) := by
  obtain ⟨h1, h2, h3, h4, h5⟩ := h
  obtain ⟨i, hi, hz, hs, hby⟩ := info40
  have h2' : (wr.alloc (.cells #[.int .i64 a, .int .i64 b] 40)).ownsRow base 40 2 rv ps.length (flat ps) := World.ownsRow.alloc h2 _
  obtain ⟨v', w5, hr, ho, hg, _, hat⟩ := run_append_own_at (P := Yba.prog) (wr.alloc (.cells #[.int .i64 a, .int .i64 b] 40)) base 32 32 40 i _ 2 16 Yba.underlying32 hi hz hs hby rfl (by decide) rv _ _ h2' ⟨wr.heap.size, 0, none⟩ 1 1 [.int .i64 a, .int .i64 b] rfl
    (fun j u hj => by
      have hadd : (⟨wr.heap.size, 0, none⟩ : Addr).add j = ⟨wr.heap.size, 0 + j, none⟩ := by unfold Addr.add; split <;> simp_all
      rw [hadd, Nat.zero_add]
      simp only [World.cell?, heap_alloc_new]
      simpa using hj)
    (fun u hu => by
      simp only [List.mem_cons, List.not_mem_nil, or_false] at hu
      rcases hu with rfl | rfl <;> rfl)
    (by unfold maxLen; omega) (by omega) (by simp; omega)
  have hRdy : Rdy w5 base v' (ps ++ [(a, b)]) := by
    unfold Rdy
    rw [flat_snoc, List.length_append]
    exact ho
  obtain ⟨av, cv, rfl⟩ := hRdy.shape
  have hlow : ∀ x, x < base → w5.heap[x]? = wr.heap[x]? := fun x hx => by
    rw [hg.block x (by simp; omega) (fun e => by have := World.ownsRow.lt h2 x e.symm; omega), Below.heap_alloc _ _ _ (by omega)]
  have hA5 : Arr w5 H 34 8 (fupd g 7 rv) := h1.of_block (hlow H hH)
  have c7 := hA5.cell (c := 7) (by omega)
  rw [fupd_same] at c7
  have hsz : base ≤ w5.heap.size := by have := hg.size; simp at this; omega
  refine ⟨av, _, cv, w5, hr, c7, hA5.frozen 7, ?_, hRdy.of_heap (fun x hx => Below.heap_setCell _ _ _ _ ?_), ?_, fun x hx hne => ?_, fun B hB1 hB2 => ?_⟩
  · have := hA5.set 7 (.slice av (ps ++ [(a, b)]).length cv)
    rwa [fupd_twice] at this
  · have := World.ownsRow.lt hRdy x hx
    show x ≠ H
    omega
  · simpa [World.setCell] using hsz
  · rw [Below.heap_setCell _ _ _ _ (by simpa using hne), hlow x hx, h4 x hx hne]
  · refine Below.setCell ?_ hB1 _
    exact Below.grown ((h5 B hB1 hB2).alloc (by omega) _) hg (by simp; omega) (fun x hx => by have := World.ownsRow.lt h2 x hx; omega)

end Go.Proofs.Ybulkbowq
