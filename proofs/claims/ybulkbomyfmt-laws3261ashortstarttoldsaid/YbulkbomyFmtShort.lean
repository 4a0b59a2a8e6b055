/-
  LawS3261AShortStart: the walk.
-/
import Derived.Test.YbulkbomyFmtCap
import Derived.Test.YbulkbomyFmtCopy
namespace Go.Proofs.YbulkbomyFmt
open Go.RowKit

set_option maxRecDepth 100000 in
set_option maxHeartbeats 400000 in
theorem short_walk (b0 b1 b2 n : Int) (w : World) (h0 : 0 ≤ n) (h1 : n ≤ 255) (ae : Addr) (cb : Array Value) (tb : TypeId) (hE : w.cell? ⟨0, 0, none⟩ = some (.iface 77 (.pointer (some ae)))) (hEb : w.heap[ae.block]? = some (.cells cb tb (0, 0))) :
    Calls Ybaf.prog 4 #[.int .u8 b0, .int .u8 b1, .int .u8 b2, .int .u8 n] w fun e w' => e = .returned (.bool true) ∧ Below w.heap.size w w' := by
  have hk0 : 0 ≤ n % 4 := by omega
  have hk1 : n % 4 ≤ 3 := by omega
  go_enter Ybaf.func4, Ybaf.ntmps4
  go_wp2_with fail
  have hB1 : Below w.heap.size w (w.alloc (.cells #[.int .u8 b0, .int .u8 b1, .int .u8 b2] 5)) := (Below.refl _ w).alloc (Nat.le_refl _) _
  have hc1 : ∀ j v, (([b0, b1, b2].take (n % 4).toNat).map (Value.int .u8))[j]? = some v → (w.alloc (.cells #[.int .u8 b0, .int .u8 b1, .int .u8 b2] 5)).cell? ((⟨w.heap.size, 0, none⟩ : Addr).add j) = some v := by
    intro j v hj
    rw [List.map_take, List.getElem?_take] at hj
    split at hj
    · rw [add_row, Nat.zero_add, World.cell?_alloc_new]
      simpa using hj
    · cases hj
  have hs1 : (w.alloc (.cells #[.int .u8 b0, .int .u8 b1, .int .u8 b2] 5)).heap.size = w.heap.size + 1 := by simp
  generalize hw1 : w.alloc (.cells #[.int .u8 b0, .int .u8 b1, .int .u8 b2] 5) = w1 at *
  clear hw1
  have hlen : ([b0, b1, b2].take (n % 4).toNat).length = (n % 4).toNat := by simp; omega
  generalize [b0, b1, b2].take (n % 4).toNat = zs at *
  refine (acopy_some ⟨w.heap.size, 0, none⟩ (n % 4).toNat 3 (zs.map (Value.int .u8)) w1 (by simpa using hlen) (by omega) hc1 (fun v hv => by
    obtain ⟨m, _, rfl⟩ := List.mem_map.1 hv
    rfl)).mono ?_
  rintro e w' ⟨rfl, rfl⟩
  have hB2 : Below w.heap.size w (w1.alloc (.cells (zs.map (Value.int .u8)).toArray 5)) := hB1.alloc (by omega) _
  have hs2 : (w1.alloc (.cells (zs.map (Value.int .u8)).toArray 5)).heap.size = w.heap.size + 2 := by simp; omega
  have hc2 : ∀ j, j < (n % 4).toNat → (w1.alloc (.cells (zs.map (Value.int .u8)).toArray 5)).cell? ⟨w.heap.size + 1, 0 + j, none⟩ = some (.int .u8 (zs.getD j 0)) := by
    intro j hj
    rw [← hs1, Nat.zero_add, World.cell?_alloc_new]
    simp [List.getElem?_eq_getElem (show j < zs.length by omega)]
  rw [hs1]
  generalize hw2 : w1.alloc (.cells (zs.map (Value.int .u8)).toArray 5) = w2 at *
  clear hw2 hB1 hs1 hc1
  go_wp2_with fail
  refine (notCapture_any (some ⟨w.heap.size + 1, 0, none⟩) (n % 4).toNat (n % 4).toNat zs w2 (Nat.le_refl _) (by unfold maxLen; omega) hlen (fun _ => ⟨_, _, rfl, hc2⟩)).mono ?_
  rintro e w3 ⟨rfl, hb3, hs3, s, hn3⟩
  have h0 : ae.block < w.heap.size := (Array.getElem?_eq_some_iff.1 hEb).1
  have hE3 : w3.cell? ⟨0, 0, none⟩ = some (.iface 77 (.pointer (some ae))) := by
    have h0 := block_lt_of_cell hE
    simp at h0
    rw [hb3.cell (by simp; omega), hB2.cell h0]
    exact hE
  have hEb3 : w3.heap[ae.block]? = some (.cells cb tb (0, 0)) := by
    rw [hb3.block _ (by omega), hB2.block _ h0]
    exact hEb
  have hne : (⟨w.heap.size + 3, 0, none⟩ : Addr) ≠ ae := by
    intro h
    have := congrArg Addr.block h
    simp at this
    omega
  rw [hs2] at hn3
  have hB3 : Below w.heap.size w w3 := hB2.trans (hb3.mono (by omega))
  rw [hs2]
  clear hb3 hB2 hE hEb hc2 hs2
  go_wp2_with fail
  refine (unwrap_nil _ w3).mono ?_
  rintro e w' ⟨rfl, rfl⟩
  go_wp2_with fail
  refine (is_other ⟨w.heap.size + 3, 0, none⟩ ae _ cb _ tb w' hne hn3 hEb3).mono ?_
  rintro e w3 ⟨rfl, rfl⟩
  go_wp2
  go_ret
  exact ⟨rfl, hB3⟩

end Go.Proofs.YbulkbomyFmt
