/-
  The arguments of the law, read.
-/
import Derived.Test.YbulkbopqRows
import Derived.Test.YbulkbopqTSrc
import Derived.ProofKit
import Derived.OpenShut
import Derived.ChangeOld
import Derived.ChangeSame
import Derived.Deep.Slices
import Derived.Deep.Strs
namespace Go.Proofs.Ybulkbopq
open Go.ChangeShapes Go.WideShapes Go.ChangeAt Go.RowKit

theorem own : ownKnob Yba.prog.godebug = none := by kernel_rfl
theorem laidOut : laidOutB Yba.prog = true := by kernel_rfl
theorem cells107 : Yba.prog.cellsOf 107 = 3 := by kernel_rfl
theorem cells5 : Yba.prog.cellsOf 5 = 1 := by kernel_rfl
theorem cells28 : Yba.prog.cellsOf 28 = 1 := by kernel_rfl

theorem add_at (b o i : Nat) : (⟨b, o, none⟩ : Addr).add i = ⟨b, o + i, none⟩ := by unfold Addr.add; split <;> simp_all
theorem three_of {α : Type} {l : List α} (h : l.length = 3) : ∃ a b c, l = [a, b, c] := by
  match l, h with
  | [a, b, c], _ => exact ⟨a, b, c, rfl⟩
theorem byte_of {n : Int} (h : (Lit.int .u8 n).wf = true) : ∃ m : Nat, n = (m : Nat) ∧ m < 256 := by
  have h2 := bounds_u8 h
  obtain ⟨m, rfl⟩ := Int.eq_ofNat_of_zero_le h2.1
  exact ⟨m, rfl, by omega⟩
theorem word_of {n : Int} (h : (Lit.int .u64 n).wf = true) : ∃ m : Nat, n = (m : Nat) ∧ m < 18446744073709551616 := by
  have h2 := bounds_u64 h
  obtain ⟨m, rfl⟩ := Int.eq_ofNat_of_zero_le h2.1
  exact ⟨m, rfl, by omega⟩
theorem lt_of_cell {w : World} {b o : Nat} {v : Value} (h : w.cell? ⟨b, o, none⟩ = some v) : b < w.heap.size := by
  by_cases hb : b < w.heap.size
  · exact hb
  · have : w.heap[b]? = none := Array.getElem?_eq_none (by omega)
    simp [World.cell?, this] at h

/-- The triples that came in, read. -/
theorem srcT_of {H : Type} {enc : TypeId × Value → H} {W : World} {a0 : Option Addr} {len cap : Nat} {d : DataW H} {p : List MemPlace} (h : DataW.Trod enc Yba.prog W 0 (fun _ => true) true 63 (.slice a0 len cap) d p) :
    ∃ xs, SrcT W a0 len xs := by
  obtain ⟨fuel, hf⟩ := h
  rcases Deep.open_slice Yba.underlying63 hf with ⟨hcs, _⟩ | ⟨a, len', cap', m, n, D, Pl', hcs, _, hl, hm, hmm, _, hx⟩
  · simp [Value.cells] at hcs
    obtain ⟨rfl, rfl, rfl⟩ := hcs
    exact ⟨[], rfl, by simp, fun h0 => by omega⟩
  · simp [Value.cells] at hcs
    obtain ⟨rfl, rfl, rfl⟩ := hcs
    simp only [if_true] at hmm
    subst hmm
    have one : ∀ i, ∃ q : Nat × Nat × Nat, q.1 < 256 ∧ q.2.1 < 256 ∧ q.2.2 < 18446744073709551616 ∧ (i < len → W.cell? (a.add (i * 3)) = some (.int .u8 (q.1 : Nat)) ∧ W.cell? ((a.add (i * 3)).add 1) = some (.int .u8 (q.2.1 : Nat)) ∧ W.cell? ((a.add (i * 3)).add 2) = some (.int .u64 (q.2.2 : Nat))) := by
      intro i
      by_cases hi : i < len
      · obtain ⟨cs', hcs', ht⟩ := hx i (by omega)
        rw [cells107] at hcs'
        obtain ⟨_, _, hc⟩ := World.cells?_some hcs'
        obtain ⟨y0, y1, y2, n', _, hl', h0, h1, h2⟩ := Deep.trod_struct3 Yba.underlying107 ht
        rw [cells107] at hl'
        obtain ⟨c0, c1, c2, rfl⟩ := three_of hl'
        obtain ⟨m0, e0, _, wm0⟩ := DataW.trod_int Yba.underlying5 h0
        obtain ⟨m1, e1, _, wm1⟩ := DataW.trod_int Yba.underlying5 h1
        obtain ⟨m2, e2, _, wm2⟩ := DataW.trod_int Yba.underlying28 h2
        simp only [List.drop_zero, List.drop_succ_cons, cells5, cells28, List.take_succ_cons, List.take_zero, List.cons.injEq, and_true] at e0 e1 e2
        subst e0
        subst e1
        subst e2
        obtain ⟨q0, rfl, l0⟩ := byte_of wm0
        obtain ⟨q1, rfl, l1⟩ := byte_of wm1
        obtain ⟨q2, rfl, l2⟩ := word_of wm2
        have hc0 := hc 0 (by omega)
        have hc1 := hc 1 (by omega)
        have hc2 := hc 2 (by omega)
        refine ⟨(q0, q1, q2), l0, l1, l2, fun _ => ⟨?_, hc1, hc2⟩⟩
        have e : (a.add (i * 3)).add 0 = a.add (i * 3) := by simp [Addr.add]
        rw [e] at hc0
        exact hc0
      · exact ⟨(0, 0, 0), by simp, by simp, by simp, fun h => absurd h hi⟩
    obtain ⟨q, hq⟩ := Classical.axiomOfChoice one
    refine ⟨(List.range len).map q, by simp, fun x hx' => ?_, fun hpos => ?_⟩
    · obtain ⟨i, _, rfl⟩ := List.mem_map.1 hx'
      exact ⟨(hq i).1, (hq i).2.1, (hq i).2.2.1⟩
    · have hc0 := ((hq 0).2.2.2 (by omega)).1
      obtain ⟨b, o, spot⟩ := a
      have hspot : spot = none := by simpa [Addr.add] using World.cell?_spot hc0
      subst hspot
      rw [add_at] at hc0
      refine ⟨b, o, rfl, lt_of_cell hc0, fun i x hi => ?_⟩
      rw [List.getElem?_map] at hi
      obtain ⟨i', hi', rfl⟩ := Option.map_eq_some_iff.1 hi
      obtain ⟨hlt, rfl⟩ := List.getElem?_eq_some_iff.1 hi'
      rw [List.getElem_range]
      rw [List.length_range] at hlt
      have := (hq i).2.2.2 hlt
      rw [add_at, add_at, add_at] at this
      exact this

end Go.Proofs.Ybulkbopq
