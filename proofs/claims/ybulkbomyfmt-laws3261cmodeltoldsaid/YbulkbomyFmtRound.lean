/-
  One round of LawS3261CBuilt's loop, as the worlds go. No walk.
-/
import Derived.Test.YbulkbomyFmtArr
namespace Go.Proofs.YbulkbomyFmt
open Go.RowKit

def xsOf (es : List (Int × List Int)) (i : Nat) : List Int := if i < 256 then Pl.vals es i else Pl.enc es

/-- The loop's state: vals in block B, seen in block B + 1; the slices (number 256: buf) each in a row of its own. -/
def St (w wr : World) (B : Nat) (vs : Nat → Value) (es : List (Int × List Int)) : Prop :=
  Fam wr (B + 2) 257 vs (xsOf es) ∧ Arr wr B 34 vs ∧ Arr wr (B + 1) 35 (fun c => .bool (Pl.seen es c)) ∧ Below B w wr ∧ B + 2 ≤ wr.heap.size

/-- A source that reads as d, in memory below B. -/
def Src (w : World) (B : Nat) (a : Option Addr) (d : List Int) : Prop := 0 < d.length → ∃ b o, a = some ⟨b, o, none⟩ ∧ b < B ∧ ∀ j, j < d.length → w.cell? ⟨b, o + j, none⟩ = some (.int .u8 (d.getD j 0))

theorem Src.at {w wr : World} {B : Nat} {a : Option Addr} {d : List Int} (h : Src w B a d) (hb : ∀ g, g < B → wr.heap[g]? = w.heap[g]?) :
    0 < d.length → ∃ b o, a = some ⟨b, o, none⟩ ∧ ∀ j, j < d.length → wr.cell? ⟨b, o + j, none⟩ = some (.int .u8 (d.getD j 0)) := fun h0 => by
  obtain ⟨b, o, e, hlt, hc⟩ := h h0
  exact ⟨b, o, e, fun j hj => by rw [World.cell?_of_block (w := w) (hb b hlt)]; exact hc j hj⟩

theorem grown_low {w w' : World} {base : Nat} {vs : Nat → Value} {xs : Nat → List Int} {n c : Nat} (hf : Fam w base n vs xs) (hc : c < n) (hg : w.grownBy w' (vs c).ownBlock) {g : Nat} (h : g < base) (hs : base ≤ w.heap.size) : w'.heap[g]? = w.heap[g]? :=
  hg.block g (by omega) (fun e => by have := ((hf.1 c hc).own_lt e.symm).1; omega)

theorem Owns.shape {w : World} {base : Nat} {v : Value} {xs : List Int} (h : Owns w base v xs) : ∃ a n c, v = .slice a n c := by
  rcases h.2 with ⟨rfl, _⟩ | ⟨g, cap, cur, rfl, _⟩
  · exact ⟨_, _, _, rfl⟩
  · exact ⟨_, _, _, rfl⟩

theorem round_built (w wr : World) (B : Nat) (vs : Nat → Value) (es : List (Int × List Int)) (h : St w wr B vs es) (c : Nat) (hc : c < 256) (a : Option Addr) (dcap : Nat) (d : List Int) (hsrc : Src w B a d)
    (hlen : (Pl.enc es).length + d.length + 2 ≤ 1048576) :
    ∃ v1 w2 v2 w3 av nv cv w5,
      (Builtin.append_ #[22, 22] 22 #[vs 256, .slice (some ⟨wr.heap.size, 0, none⟩) 2 2]).run Ybaf.prog (wr.alloc (.cells #[.int .u8 c, .int .u8 d.length] 5)) = .ok v1 w2 ∧
      (Builtin.append_ #[22, 22] 22 #[v1, .slice a d.length dcap]).run Ybaf.prog w2 = .ok v2 w3 ∧
      w3.cell? ⟨B + 1, c, none⟩ = some (.bool (Pl.seen es c)) ∧ w3.frozen? ⟨B + 1, c, none⟩ = false ∧
      (if Pl.seen es c then w3 else w3.setCell ⟨B + 1, c, none⟩ (.bool true)).cell? ⟨B, c, none⟩ = some (vs c) ∧
      (Builtin.append_ #[22, 22] 22 #[vs c, .slice a d.length dcap]).run Ybaf.prog (if Pl.seen es c then w3 else w3.setCell ⟨B + 1, c, none⟩ (.bool true)) = .ok (.slice av nv cv) w5 ∧
      w5.cell? ⟨B, c, none⟩ = some (vs c) ∧ w5.frozen? ⟨B, c, none⟩ = false ∧
      ∃ vs', vs' 256 = v2 ∧ St w (w5.setCell ⟨B, c, none⟩ (.slice av nv cv)) B vs' (es ++ [((c : Int), d)]) := by
  obtain ⟨hfam, hV, hS, hbel, hsz⟩ := h
  have hvl := Pl.vals_length es c
  have x256 : xsOf es 256 = Pl.enc es := by simp [xsOf]
  have xc : xsOf es c = Pl.vals es c := by simp [xsOf, hc]
  -- the block of two bytes
  have hk1 : ∀ g, g < wr.heap.size → (wr.alloc (.cells #[.int .u8 c, .int .u8 d.length] 5)).heap[g]? = wr.heap[g]? := fun g hg => Below.heap_alloc _ _ _ hg
  have hfam1 : Fam (wr.alloc (.cells #[.int .u8 c, .int .u8 d.length] 5)) (B + 2) 257 vs (xsOf es) := hfam.kept (fun g _ hg => hk1 g hg)
  have hcell1 : ∀ j, j < [(c : Int), (d.length : Int)].length → (wr.alloc (.cells #[.int .u8 c, .int .u8 d.length] 5)).cell? ⟨wr.heap.size, 0 + j, none⟩ = some (.int .u8 ([(c : Int), (d.length : Int)].getD j 0)) := by
    intro j hj
    rw [Nat.zero_add, World.cell?_alloc_new]
    match j, hj with
    | 0, _ => rfl
    | 1, _ => rfl
  obtain ⟨v1, w2, e1, hfam2, hg2⟩ := hfam1.append (c := 256) (by omega) (some ⟨wr.heap.size, 0, none⟩) 2 [(c : Int), (d.length : Int)] (fun _ => ⟨_, _, rfl, hcell1⟩) (by rw [x256]; simp; omega) (by simp; omega) 22
  have hk2 : ∀ g, g < B + 2 → w2.heap[g]? = wr.heap[g]? := fun g hg => (grown_low hfam1 (by omega) hg2 hg (by simp; omega)).trans (hk1 g (by omega))
  have hs2 : B + 2 ≤ w2.heap.size := by have := hg2.size; simp at this; omega
  have hsrc2 := hsrc.at (wr := w2) (fun g hg => (hk2 g (by omega)).trans (hbel.block g hg))
  obtain ⟨v2, w3, e2, hfam3, hg3⟩ := hfam2.append (c := 256) (by omega) a dcap d hsrc2 (by rw [fupd_same, x256]; simp; omega) hs2 22
  rw [fupd_same] at e2
  have hk3 : ∀ g, g < B + 2 → w3.heap[g]? = wr.heap[g]? := fun g hg => (grown_low hfam2 (by omega) hg3 hg hs2).trans (hk2 g hg)
  have hs3 : B + 2 ≤ w3.heap.size := by have := hg3.size; omega
  have hS3 : Arr w3 (B + 1) 35 (fun c => .bool (Pl.seen es c)) := hS.of_block (hk3 _ (by omega))
  have hV3 : Arr w3 B 34 vs := hV.of_block (hk3 _ (by omega))
  have hb3 : Below B w w3 := ((hbel.alloc (by omega) _).grown hg2 (by simp; omega) (fun k hk => by have := ((hfam1.1 256 (by omega)).own_lt hk).1; omega)).grown hg3 (by omega) (fun k hk => by have := ((hfam2.1 256 (by omega)).own_lt hk).1; omega)
  -- behind the mark
  have mid : ∃ w4, w4 = (if Pl.seen es c then w3 else w3.setCell ⟨B + 1, c, none⟩ (.bool true)) ∧ Arr w4 (B + 1) 35 (fun i => .bool (Pl.seen (es ++ [((c : Int), d)]) i)) ∧ Arr w4 B 34 vs ∧ Below B w w4 ∧ B + 2 ≤ w4.heap.size ∧ ∀ g, g ≠ B + 1 → w4.heap[g]? = w3.heap[g]? := by
    refine ⟨_, rfl, ?_⟩
    cases hs : Pl.seen es c with
    | true =>
      simp only [if_true]
      refine ⟨hS3.congr fun i hi => ?_, hV3, hb3, hs3, fun _ _ => trivial⟩
      rw [Pl.seen_snoc]
      by_cases hic : i = c
      · subst hic; simp [hs]
      · have : ((c : Int) == (i : Int)) = false := by simp; omega
        rw [this, Bool.or_false]
    | false =>
      simp only [Bool.false_eq_true, if_false]
      refine ⟨(hS3.set c (.bool true)).congr fun i hi => ?_, hV3.set_other (by simp) _, hb3.setCell (by simp) _, by simp [World.setCell]; omega, fun g hg => Below.heap_setCell _ _ _ _ hg⟩
      rw [Pl.seen_snoc]
      by_cases hic : i = c
      · subst hic; simp [fupd_same]
      · have : ((c : Int) == (i : Int)) = false := by simp; omega
        rw [this, Bool.or_false, fupd_other _ _ _ hic]
  obtain ⟨w4, hw4, hS4, hV4, hb4, hs4, hk4⟩ := mid
  have hfam4 := hfam3.kept (w' := w4) (fun g hg _ => hk4 g (by omega))
  have hsrc4 := hsrc.at (wr := w4) (fun g hg => hb4.block g hg)
  have hne : c ≠ 256 := by omega
  obtain ⟨v3, w5, e3, hfam5, hg5⟩ := hfam4.append (c := c) (by omega) a dcap d hsrc4 (by rw [fupd_other _ _ _ hne, fupd_other _ _ _ hne, xc]; omega) hs4 22
  rw [fupd_other _ _ _ hne, fupd_other _ _ _ hne] at e3
  obtain ⟨av, nv, cv, rfl⟩ : ∃ a n c, v3 = .slice a n c := by
    have := hfam5.1 c (by omega)
    rw [fupd_same] at this
    exact this.shape
  have hk5 : ∀ g, g < B + 2 → w5.heap[g]? = w4.heap[g]? := fun g hg => grown_low hfam4 (by omega) hg5 hg hs4
  have hs5 : B + 2 ≤ w5.heap.size := by have := hg5.size; omega
  have hV5 : Arr w5 B 34 vs := hV4.of_block (hk5 _ (by omega))
  have hS5 := hS4.of_block (hk5 (B + 1) (by omega))
  have hb5 : Below B w w5 := hb4.grown hg5 (by omega) (fun k hk => by have := ((hfam4.1 c (by omega)).own_lt hk).1; omega)
  refine ⟨v1, w2, v2, w3, av, nv, cv, w5, e1, e2, hS3.cell hc, hS3.frozen c, hw4 ▸ hV4.cell hc, hw4 ▸ e3, hV5.cell hc, hV5.frozen c, fupd (fupd (fupd vs 256 v1) 256 v2) c (.slice av nv cv), ?_, ?_, ?_, ?_, hb5.setCell (Nat.le_refl _) _, ?_⟩
  · rw [fupd_other _ _ _ (Ne.symm hne), fupd_same]
  · refine (hfam5.kept (w' := w5.setCell ⟨B, c, none⟩ (.slice av nv cv)) (fun g hg _ => Below.heap_setCell _ _ _ _ (by simp; omega))).congr fun i hi => ?_
    unfold xsOf
    by_cases hic : i = c
    · subst hic
      rw [fupd_same, fupd_other _ _ _ hne, fupd_other _ _ _ hne, if_pos hc, if_pos hc, Pl.vals_snoc, if_pos rfl]
    · rw [fupd_other _ _ _ hic]
      by_cases h256 : i = 256
      · subst h256
        rw [fupd_same, fupd_same, if_neg (by omega), if_neg (by omega), Pl.enc_snoc]
        simp
      · rw [fupd_other _ _ _ h256, fupd_other _ _ _ h256, if_pos (by omega), if_pos (by omega), Pl.vals_snoc, if_neg (by omega)]
  · refine (hV5.set c (.slice av nv cv)).congr fun i hi => ?_
    by_cases hic : i = c
    · subst hic; rw [fupd_same, fupd_same]
    · rw [fupd_other _ _ _ hic, fupd_other _ _ _ hic, fupd_other _ _ _ (by omega), fupd_other _ _ _ (by omega)]
  · exact hS5.set_other (by simp) _
  · simp [World.setCell]; omega

end Go.Proofs.YbulkbomyFmt
