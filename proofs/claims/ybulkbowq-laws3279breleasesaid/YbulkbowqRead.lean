/-
  The law's argument, read: a struct of eight cells.
-/
import Derived.Test.YbulkbowqRows
import Derived.Test.YbulkbowqAid
import Derived.ProofKit
import Derived.OpenShut
import Derived.ChangeOld
import Derived.ChangeSame
import Derived.Deep.Slices
namespace Go.Proofs.Ybulkbowq
open Go.ChangeShapes Go.WideShapes Go.ChangeAt Go.RowKit

theorem own : ownKnob Yba.prog.godebug = none := by kernel_rfl
theorem laidOut : laidOutB Yba.prog = true := by kernel_rfl
theorem cells4 : Yba.prog.cellsOf 4 = 1 := by kernel_rfl
theorem cells5 : Yba.prog.cellsOf 5 = 1 := by kernel_rfl
theorem cells21 : Yba.prog.cellsOf 21 = 1 := by kernel_rfl
theorem cells22 : Yba.prog.cellsOf 22 = 1 := by kernel_rfl
theorem cells23 : Yba.prog.cellsOf 23 = 1 := by kernel_rfl
theorem cells24 : Yba.prog.cellsOf 24 = 1 := by kernel_rfl
theorem cells26 : Yba.prog.cellsOf 26 = 8 := by kernel_rfl

theorem add_at (b o i : Nat) : (⟨b, o, none⟩ : Addr).add i = ⟨b, o + i, none⟩ := by unfold Addr.add; split <;> simp_all
theorem byte_of {n : Int} (h : (Lit.int .u8 n).wf = true) : ∃ m : Nat, n = (m : Nat) ∧ m < 256 := by
  have h2 := bounds_u8 h
  obtain ⟨m, rfl⟩ := Int.eq_ofNat_of_zero_le h2.1
  exact ⟨m, rfl, by omega⟩
theorem lt_of_cell {w : World} {b o : Nat} {v : Value} (h : w.cell? ⟨b, o, none⟩ = some v) : b < w.heap.size := by
  by_cases hb : b < w.heap.size
  · exact hb
  · have : w.heap[b]? = none := Array.getElem?_eq_none (by omega)
    simp [World.cell?, this] at h
theorem spots {W : World} {a : Addr} {len : Nat} {V : Nat → Value} (h : ∀ i, i < len → W.cell? (a.add i) = some (V i)) (h0 : 0 < len) :
    ∃ pb po, a = ⟨pb, po, none⟩ ∧ pb < W.heap.size ∧ ∀ j, j < len → W.cell? ⟨pb, po + j, none⟩ = some (V j) := by
  obtain ⟨b, o, spot⟩ := a
  have hc0 := h 0 h0
  have hspot : spot = none := by simpa [Addr.add] using World.cell?_spot hc0
  subst hspot
  rw [add_at] at hc0
  refine ⟨b, o, rfl, lt_of_cell hc0, fun j hj => ?_⟩
  have := h j hj
  rwa [add_at] at this

section
variable {H : Type} {enc : TypeId × Value → H} {W : World} {fuel : Nat} {cs : List Value} {x : DataW H × List MemPlace}

/-- A slice of int32s that came in, read. -/
theorem srcI_of (h : DataW.trod enc Yba.prog W 0 (fun _ => true) true fuel 22 cs = some x) : ∃ a len cap f, cs = [.slice a len cap] ∧ SrcI W a len f := by
  rcases Deep.open_slice1 Yba.underlying22 cells21 h with ⟨rfl, _⟩ | ⟨a, len, cap, m, n, V, D, Pl, rfl, _, hl, hm, hmm, _, hx⟩
  · exact ⟨none, 0, 0, fun _ => 0, rfl, fun _ => ⟨by simp, by simp⟩, fun h0 => by omega⟩
  · simp only [if_true] at hmm
    subst hmm
    have one : ∀ i, ∃ z : Int, I32 z ∧ (i < len → V i = .int .i32 z) := fun i => by
      by_cases hi : i < len
      · obtain ⟨z, e, _, wz⟩ := DataW.trod_int Yba.underlying21 (hx i (by omega)).2
        exact ⟨z, bounds_i32 wz, fun _ => by simpa using e⟩
      · exact ⟨0, ⟨by omega, by omega⟩, fun h => absurd h hi⟩
    obtain ⟨f, hf⟩ := Classical.axiomOfChoice one
    refine ⟨some a, len, _, f, rfl, fun j => (hf j).1, fun h0 => ?_⟩
    obtain ⟨pb, po, rfl, hb, hc⟩ := spots (len := len) (fun i hi => (hx i (by omega)).1) h0
    exact ⟨pb, po, rfl, hb, fun j hj => by rw [hc j hj, (hf j).2 hj]⟩

/-- A slice of bools that came in, read. -/
theorem srcB_of (h : DataW.trod enc Yba.prog W 0 (fun _ => true) true fuel 24 cs = some x) : ∃ a len cap f, cs = [.slice a len cap] ∧ SrcB W a len f := by
  rcases Deep.open_slice1 Yba.underlying24 cells4 h with ⟨rfl, _⟩ | ⟨a, len, cap, m, n, V, D, Pl, rfl, _, hl, hm, hmm, _, hx⟩
  · exact ⟨none, 0, 0, fun _ => false, rfl, fun h0 => by omega⟩
  · simp only [if_true] at hmm
    subst hmm
    have one : ∀ i, ∃ z : Bool, i < len → V i = .bool z := fun i => by
      by_cases hi : i < len
      · obtain ⟨z, e, _⟩ := DataW.trod_bool Yba.underlying4 (hx i (by omega)).2
        exact ⟨z, fun _ => by simpa using e⟩
      · exact ⟨false, fun h => absurd h hi⟩
    obtain ⟨f, hf⟩ := Classical.axiomOfChoice one
    refine ⟨some a, len, _, f, rfl, fun h0 => ?_⟩
    obtain ⟨pb, po, rfl, hb, hc⟩ := spots (len := len) (fun i hi => (hx i (by omega)).1) h0
    exact ⟨pb, po, rfl, hb, fun j hj => by rw [hc j hj, hf j hj]⟩

/-- A slice of slices that came in, read. -/
theorem srcK_of (h : DataW.trod enc Yba.prog W 0 (fun _ => true) true fuel 23 cs = some x) : ∃ a len cap ka L cp X, cs = [.slice a len cap] ∧ SrcK W a len ka L cp X := by
  rcases Deep.open_slice1 Yba.underlying23 cells22 h with ⟨rfl, _⟩ | ⟨a, len, cap, m, n, V, D, Pl, rfl, _, hl, hm, hmm, _, hx⟩
  · exact ⟨none, 0, 0, fun _ => none, fun _ => 0, fun _ => 0, fun _ _ => 0, rfl, fun _ _ => ⟨by simp, by simp⟩, fun h0 => by omega⟩
  · simp only [if_true] at hmm
    subst hmm
    have one : ∀ i, ∃ z : Option Addr × Nat × Nat × (Nat → Int), (∀ j, I32 (z.2.2.2 j)) ∧ (i < len → V i = .slice z.1 z.2.1 z.2.2.1 ∧ SrcI W z.1 z.2.1 z.2.2.2) := fun i => by
      by_cases hi : i < len
      · obtain ⟨a', l', c', f, e, hs⟩ := srcI_of (hx i (by omega)).2
        exact ⟨(a', l', c', f), hs.1, fun _ => ⟨by simpa using e, hs⟩⟩
      · exact ⟨(none, 0, 0, fun _ => 0), fun _ => ⟨by simp, by simp⟩, fun h => absurd h hi⟩
    obtain ⟨f, hf⟩ := Classical.axiomOfChoice one
    refine ⟨some a, len, _, fun i => (f i).1, fun i => (f i).2.1, fun i => (f i).2.2.1, fun i => (f i).2.2.2, rfl, fun i j => (hf i).1 j, fun h0 => ?_⟩
    obtain ⟨pb, po, rfl, hb, hc⟩ := spots (len := len) (fun i hi => (hx i (by omega)).1) h0
    exact ⟨pb, po, rfl, hb, fun j hj => ⟨by rw [hc j hj, ((hf j).2 hj).1], ((hf j).2 hj).2⟩⟩

theorem eight_of {α : Type} {l : List α} (h : l.length = 8) : ∃ a0 a1 a2 a3 a4 a5 a6 a7, l = [a0, a1, a2, a3, a4, a5, a6, a7] := by
  match l, h with
  | [a0, a1, a2, a3, a4, a5, a6, a7], _ => exact ⟨a0, a1, a2, a3, a4, a5, a6, a7, rfl⟩

/-- The law's argument, read. -/
theorem arg_of (h : DataW.trod enc Yba.prog W 0 (fun _ => true) true fuel 26 cs = some x) :
    ∃ (nd pre qv : Nat) (ow reach : Int) (aB aK aD : Option Addr) (lB cB lK cK lD cD : Nat) (bt : Nat → Int) (dr : Nat → Bool) (ka : Nat → Option Addr) (L cp : Nat → Nat) (X : Nat → Nat → Int),
      cs = [.int .u8 (nd : Nat), .int .i32 ow, .int .i32 reach, .slice aB lB cB, .slice aK lK cK, .slice aD lD cD, .int .u8 (pre : Nat), .int .u8 (qv : Nat)] ∧
      nd < 256 ∧ pre < 256 ∧ qv < 256 ∧ I32 ow ∧ I32 reach ∧ SrcI W aB lB bt ∧ SrcB W aD lD dr ∧ SrcK W aK lK ka L cp X := by
  obtain ⟨xs, n, _, _, hl, hlen, hf⟩ := DataW.trod_struct Yba.underlying26 h
  rw [cells26] at hl
  obtain ⟨c0, c1, c2, c3, c4, c5, c6, c7, rfl⟩ := eight_of hl
  obtain ⟨x0, x1, x2, x3, x4, x5, x6, x7, rfl⟩ := eight_of (l := xs) (by simpa using hlen)
  have f0 := hf 0 _ rfl
  have f1 := hf 1 _ rfl
  have f2 := hf 2 _ rfl
  have f3 := hf 3 _ rfl
  have f4 := hf 4 _ rfl
  have f5 := hf 5 _ rfl
  have f6 := hf 6 _ rfl
  have f7 := hf 7 _ rfl
  simp [cells5, cells21, cells22, cells23, cells24] at f0 f1 f2 f3 f4 f5 f6 f7
  obtain ⟨n0, e0, _, w0⟩ := DataW.trod_int Yba.underlying5 f0
  obtain ⟨n1, e1, _, w1⟩ := DataW.trod_int Yba.underlying21 f1
  obtain ⟨n2, e2, _, w2⟩ := DataW.trod_int Yba.underlying21 f2
  obtain ⟨aB, lB, cB, bt, e3, s3⟩ := srcI_of f3
  obtain ⟨aK, lK, cK, ka, L, cp, X, e4, s4⟩ := srcK_of f4
  obtain ⟨aD, lD, cD, dr, e5, s5⟩ := srcB_of f5
  obtain ⟨n6, e6, _, w6⟩ := DataW.trod_int Yba.underlying5 f6
  obtain ⟨n7, e7, _, w7⟩ := DataW.trod_int Yba.underlying5 f7
  obtain ⟨nd, rfl, hnd⟩ := byte_of w0
  obtain ⟨pre, rfl, hpre⟩ := byte_of w6
  obtain ⟨qv, rfl, hqv⟩ := byte_of w7
  simp only [List.cons.injEq, and_true] at e0 e1 e2 e3 e4 e5 e6 e7
  subst e0 e1 e2 e3 e4 e5 e6 e7
  exact ⟨nd, pre, qv, n1, n2, aB, aK, aD, lB, cB, lK, cK, lD, cD, bt, dr, ka, L, cp, X, rfl, hnd, hpre, hqv, bounds_i32 w1, bounds_i32 w2, s3, s5, s4⟩
end

end Go.Proofs.Ybulkbowq
