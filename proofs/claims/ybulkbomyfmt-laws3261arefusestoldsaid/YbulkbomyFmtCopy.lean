/-
  zzs3261acopy by its contract: a new row that holds what the source held.
-/
import Derived.Test.YbulkbomyFmtIs
import Derived.Laws.MakeOwn
import Derived.Laws.CopyRow
import Derived.Lib.SliceRun
namespace Go.Proofs.YbulkbomyFmt
open Go.RowKit

theorem setRow_alloc (w : World) (c cs : Array Value) (t : TypeId) : (w.alloc (.cells c t)).setRow w.heap.size cs = w.alloc (.cells cs t) := by
  unfold World.setRow World.alloc
  congr 1
  apply Array.ext_getElem?
  intro i
  simp only [Array.getElem?_modify, Array.getElem?_push]
  by_cases h : i = w.heap.size
  · subst h; simp
  · have h' : ¬ w.heap.size = i := fun e => h e.symm
    simp [h, h']

theorem add_row (b o i : Nat) : (⟨b, o, none⟩ : Addr).add i = ⟨b, o + i, none⟩ := by unfold Addr.add; split <;> simp_all

theorem heap_new (w : World) (o : Obj) : (w.alloc o).heap[w.heap.size]? = some o := by
  show (w.heap.push o)[w.heap.size]? = _
  simp

theorem Ybaf.info5 : ∃ i, Ybaf.prog.info? 5 = some i ∧ i.size = 1 ∧ i.bytes = 1 ∧ i.zero = some (.int .u8 0) := ⟨Ybaf.t5, by kernel_rfl, by kernel_rfl, by kernel_rfl, by kernel_rfl⟩

theorem acopy_nil (w : World) : Calls Ybaf.prog 7 #[.slice none 0 0] w fun e w' => e = .returned (.slice none 0 0) ∧ w' = w := by
  have hn := fun (w : World) => Lib.run_eql_slice_nil (P := Ybaf.prog) w 22 5 none 0 0 0 0 Ybaf.underlying22
  go_enter Ybaf.func7, Ybaf.ntmps7
  go_wp2
  go_ret
  exact ⟨rfl, rfl⟩

set_option maxRecDepth 100000 in
set_option maxHeartbeats 400000 in
theorem acopy_some (a : Addr) (len cap : Nat) (cs : List Value) (w : World) (hl : cs.length = len) (hle : len ≤ 1024)
    (hc : ∀ j v, cs[j]? = some v → w.cell? (a.add j) = some v) (h1 : ∀ v ∈ cs, v.oneCell' = true) :
    Calls Ybaf.prog 7 #[.slice (some a) len cap] w fun e w' => e = .returned (.slice (some ⟨w.heap.size, 0, none⟩) len len) ∧ w' = w.alloc (.cells cs.toArray 5) := by
  obtain ⟨i, hi, hs, hb, hz⟩ := Ybaf.info5
  have hn := fun (w : World) => Lib.run_eql_slice_nil (P := Ybaf.prog) w 22 5 (some a) len cap 0 0 Ybaf.underlying22
  have hmk := run_make (P := Ybaf.prog) w 22 5 i _ Ybaf.underlying22 hi hz .i64 .i64 len len (by omega) (by omega) (by rw [hb]; omega) (by omega)
  rw [hs, Int.toNat_natCast, Nat.mul_one, show (Value.int .u8 0).cells = #[Value.int .u8 0] from rfl] at hmk
  have hcp := run_copy_row (P := Ybaf.prog) (w.alloc (.cells (madeCells #[Value.int .u8 0] len) 5)) 22 22 3 5 w.heap.size 0 len len a len cap (madeCells #[Value.int .u8 0] len) 5 cs Ybaf.underlying22
    (by rw [hi]; simp [hs]) (heap_new w _) (by simp [hl]) (fun j v hj => by
      have h := hc j v hj
      rw [World.cell?_alloc_lt _ _ _ (block_lt_of_cell h)]
      exact h) (by rw [size_madeCells]; omega) h1
  rw [setRow_alloc, hl, List.take_zero, List.nil_append, List.drop_of_length_le (by simp [size_madeCells]), List.append_nil] at hcp
  go_enter Ybaf.func7, Ybaf.ntmps7
  go_wp2
  go_ret
  exact ⟨rfl, rfl⟩

end Go.Proofs.YbulkbomyFmt
