/-
  The arguments of the B laws, read.
-/
import Derived.Test.YbulkbopqRows
import Derived.Test.YbulkbopqBLaws
import Derived.ProofKit
import Derived.OpenShut
import Derived.ChangeOld
import Derived.ChangeSame
import Derived.Deep.Slices
namespace Go.Proofs.Ybulkbopq
open Go.ChangeShapes Go.WideShapes Go.ChangeAt Go.RowKit

theorem own : ownKnob Yba.prog.godebug = none := by kernel_rfl
theorem laidOut : laidOutB Yba.prog = true := by kernel_rfl
theorem cells124 : Yba.prog.cellsOf 124 = 2 := by kernel_rfl
theorem cells5 : Yba.prog.cellsOf 5 = 1 := by kernel_rfl

theorem add_at (b o i : Nat) : (⟨b, o, none⟩ : Addr).add i = ⟨b, o + i, none⟩ := by unfold Addr.add; split <;> simp_all
theorem two_of {α : Type} {l : List α} (h : l.length = 2) : ∃ a b, l = [a, b] := by
  match l, h with
  | [a, b], _ => exact ⟨a, b, rfl⟩
theorem byte_of {n : Int} (h : (Lit.int .u8 n).wf = true) : ∃ m : Nat, n = (m : Nat) ∧ m < 256 := by
  have h2 := bounds_u8 h
  obtain ⟨m, rfl⟩ := Int.eq_ofNat_of_zero_le h2.1
  exact ⟨m, rfl, by omega⟩
theorem lt_of_cell {w : World} {b o : Nat} {v : Value} (h : w.cell? ⟨b, o, none⟩ = some v) : b < w.heap.size := by
  by_cases hb : b < w.heap.size
  · exact hb
  · have : w.heap[b]? = none := Array.getElem?_eq_none (by omega)
    simp [World.cell?, this] at h

/-- The bytes that came in, read. -/
theorem srcB_of {H : Type} {enc : TypeId × Value → H} {W : World} {a0 : Option Addr} {len cap : Nat} {d : DataW H} {p : List MemPlace} (h : DataW.Trod enc Yba.prog W 0 (fun _ => true) true 22 (.slice a0 len cap) d p) :
    ∃ s, SrcB W a0 len s := by
  obtain ⟨fuel, hf⟩ := h
  rcases open_ints Yba.underlying22 Yba.underlying5 cells5 hf with ⟨hcs, _⟩ | ⟨a, len', cap', zs, hcs, _, hl, hm, hz, _, hcell, hwz⟩
  · simp [Value.cells] at hcs
    obtain ⟨rfl, rfl, rfl⟩ := hcs
    exact ⟨fun _ => 0, fun _ => Nat.zero_lt_succ _, fun h0 => by omega⟩
  · simp [Value.cells] at hcs
    obtain ⟨rfl, rfl, rfl⟩ := hcs
    simp only [if_true] at hz
    have one : ∀ j, j < zs.length → ∃ m : Nat, zs.getD j 0 = (m : Nat) ∧ m < 256 := fun j hj => byte_of (hwz _ (by rw [List.getD_eq_getElem?_getD, List.getElem?_eq_getElem hj]; exact List.getElem_mem _))
    have h0 : ∀ j, ∃ m : Nat, m < 256 ∧ (j < zs.length → zs.getD j 0 = (m : Nat)) := fun j => by
      by_cases hj : j < zs.length
      · obtain ⟨m, e, hm⟩ := one j hj
        exact ⟨m, hm, fun _ => e⟩
      · exact ⟨0, by omega, fun h => absurd h hj⟩
    obtain ⟨s, hs⟩ := Classical.axiomOfChoice h0
    refine ⟨s, fun j => (hs j).1, fun hpos => ?_⟩
    obtain ⟨b, o, spot⟩ := a
    have hc0 := hcell 0 (by omega)
    have hspot : spot = none := by simpa [Addr.add] using World.cell?_spot hc0
    subst hspot
    rw [add_at] at hc0
    refine ⟨b, o, rfl, lt_of_cell hc0, fun j hj => ?_⟩
    have := hcell j (by omega)
    rw [add_at, (hs j).2 (by omega)] at this
    exact this

/-- The links that came in, read. -/
theorem srcL_of {H : Type} {enc : TypeId × Value → H} {W : World} {a0 : Option Addr} {len cap : Nat} {d : DataW H} {p : List MemPlace} (h : DataW.Trod enc Yba.prog W 0 (fun _ => true) true 32 (.slice a0 len cap) d p) :
    ∃ ch pa, SrcL W a0 len ch pa := by
  obtain ⟨fuel, hf⟩ := h
  rcases Deep.open_slice Yba.underlying32 hf with ⟨hcs, _⟩ | ⟨a, len', cap', m, n, D, Pl', hcs, _, hl, hm, hmm, _, hx⟩
  · simp [Value.cells] at hcs
    obtain ⟨rfl, rfl, rfl⟩ := hcs
    exact ⟨fun _ => 0, fun _ => 0, fun _ => Nat.zero_lt_succ _, fun _ => Nat.zero_lt_succ _, fun h0 => by omega⟩
  · simp [Value.cells] at hcs
    obtain ⟨rfl, rfl, rfl⟩ := hcs
    simp only [if_true] at hmm
    subst hmm
    have one : ∀ i, ∃ q : Nat × Nat, q.1 < 256 ∧ q.2 < 256 ∧ (i < len → W.cell? (a.add (i * 2)) = some (.int .u8 (q.1 : Nat)) ∧ W.cell? ((a.add (i * 2)).add 1) = some (.int .u8 (q.2 : Nat))) := by
      intro i
      by_cases hi : i < len
      · obtain ⟨cs', hcs', ht⟩ := hx i (by omega)
        rw [cells124] at hcs'
        obtain ⟨_, _, hc⟩ := World.cells?_some hcs'
        obtain ⟨y0, y1, n', _, hl', h0, h1⟩ := trod_struct2 Yba.underlying124 ht
        rw [cells124] at hl'
        obtain ⟨c0, c1, rfl⟩ := two_of hl'
        obtain ⟨m0, e0, _, wm0⟩ := DataW.trod_int Yba.underlying5 h0
        obtain ⟨m1, e1, _, wm1⟩ := DataW.trod_int Yba.underlying5 h1
        simp only [List.drop_zero, List.drop_succ_cons, cells5, List.take_succ_cons, List.take_zero, List.cons.injEq, and_true] at e0 e1
        subst e0
        subst e1
        obtain ⟨q0, rfl, l0⟩ := byte_of wm0
        obtain ⟨q1, rfl, l1⟩ := byte_of wm1
        have hc0 := hc 0 (by omega)
        have hc1 := hc 1 (by omega)
        refine ⟨(q0, q1), l0, l1, fun _ => ⟨?_, hc1⟩⟩
        have e : (a.add (i * 2)).add 0 = a.add (i * 2) := by simp [Addr.add]
        rw [e] at hc0
        exact hc0
      · exact ⟨(0, 0), by simp, by simp, fun h => absurd h hi⟩
    obtain ⟨q, hq⟩ := Classical.axiomOfChoice one
    refine ⟨fun i => (q i).1, fun i => (q i).2, fun i => (hq i).1, fun i => (hq i).2.1, fun hpos => ?_⟩
    have hc0 := ((hq 0).2.2 (by omega)).1
    obtain ⟨b, o, spot⟩ := a
    have hspot : spot = none := by simpa [Addr.add] using World.cell?_spot hc0
    subst hspot
    rw [add_at] at hc0
    refine ⟨b, o, rfl, lt_of_cell hc0, fun i hi => ?_⟩
    have := (hq i).2.2 hi
    rw [add_at, add_at] at this
    exact this

end Go.Proofs.Ybulkbopq
