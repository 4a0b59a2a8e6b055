/-
  LawS3261ARefuses: the walk.
-/
import Derived.Test.YbulkbomyFmtCap
import Derived.Test.YbulkbomyFmtCopy
import Derived.Deep.QuietTactic
import Derived.BigQuiet
namespace Go.Proofs.YbulkbomyFmt
open Go.RowKit

/-- What the walk is told of a slice of bytes that came in. -/
def IsRow (w : World) (a : Option Addr) (len cap : Nat) (zs : List Int) : Prop :=
  (a = none ∧ len = 0 ∧ cap = 0 ∧ zs = []) ∨
  ∃ x, a = some x ∧ len ≤ cap ∧ cap ≤ maxLen ∧ zs.length = cap ∧ (∀ i, i < zs.length → w.cell? (x.add i) = some (.int .u8 (zs.getD i 0))) ∧ ∀ n ∈ zs, (Lit.int .u8 n).wf = true

set_option maxRecDepth 100000 in
set_option maxHeartbeats 400000 in
theorem refuses_some (x : Addr) (len cap : Nat) (zs : List Int) (w : World) (ae : Addr) (cb : Array Value) (tb : TypeId) (hl : len ≤ cap) (hm : cap ≤ maxLen) (hz : zs.length = cap)
    (hc : ∀ i, i < zs.length → w.cell? (x.add i) = some (.int .u8 (zs.getD i 0))) (hE : w.cell? ⟨0, 0, none⟩ = some (.iface 77 (.pointer (some ae)))) (hEb : w.heap[ae.block]? = some (.cells cb tb (0, 0))) (hle : len ≤ 1024) :
    Calls Ybaf.prog 3 #[.slice (some x) len cap] w fun e w' => e = .returned (.bool true) ∧ Below w.heap.size w w' := by
  have hle' : ¬ (1024 : Int) < (len : Int) := by omega
  have hlen : ((zs.take len).map (Value.int .u8)).length = len := by simp; omega
  have hsrc : ∀ j v, ((zs.take len).map (Value.int .u8))[j]? = some v → w.cell? (x.add j) = some v := by
    intro j v hj
    simp only [List.getElem?_map, List.getElem?_take, Option.map_eq_some_iff] at hj
    obtain ⟨n, hn, rfl⟩ := hj
    split at hn
    · rw [hc j (by omega), List.getD_eq_getElem?_getD, hn]; rfl
    · cases hn
  have one : ∀ v ∈ (zs.take len).map (Value.int .u8), v.oneCell' = true := by
    intro v hv
    obtain ⟨n, _, rfl⟩ := List.mem_map.1 hv
    rfl
  generalize hcs : (zs.take len).map (Value.int .u8) = cs at *
  go_enter Ybaf.func3, Ybaf.ntmps3
  go_wp2_with fail
  refine (acopy_some x len cap cs w hlen hle hsrc one).mono ?_
  rintro e w' ⟨rfl, rfl⟩
  go_wp2_with fail
  refine (acopy_some x len cap cs (w.alloc (.cells cs.toArray 5)) hlen hle (fun j v hj => by
    have h := hsrc j v hj
    rw [World.cell?_alloc_lt _ _ _ (block_lt_of_cell h)]; exact h) one).mono ?_
  rintro e w' ⟨rfl, rfl⟩
  go_wp2_with fail
  have hget : ∀ j, j < len → cs[j]? = some (.int .u8 (zs.getD j 0)) := by
    intro j hj
    rw [← hcs, List.getElem?_map, List.getElem?_take, if_pos hj, List.getD_eq_getElem?_getD, List.getElem?_eq_getElem (by omega)]
    rfl
  have hcB : ∀ j, j < len → ((w.alloc (.cells cs.toArray 5)).alloc (.cells cs.toArray 5)).cell? ⟨w.heap.size, j, none⟩ = some (.int .u8 (zs.getD j 0)) := by
    intro j hj
    have h := hget j hj
    simpa using h
  have hcK : ∀ j, j < len → ((w.alloc (.cells cs.toArray 5)).alloc (.cells cs.toArray 5)).cell? ⟨w.heap.size + 1, j, none⟩ = some (.int .u8 (zs.getD j 0)) := by
    intro j hj
    have h := hget j hj
    simpa using h
  have hBel : Below w.heap.size w ((w.alloc (.cells cs.toArray 5)).alloc (.cells cs.toArray 5)) := ((Below.refl _ w).alloc (Nat.le_refl _) _).alloc (by simp) _
  have hsz : ((w.alloc (.cells cs.toArray 5)).alloc (.cells cs.toArray 5)).heap.size = w.heap.size + 2 := by simp
  generalize hw2 : (w.alloc (.cells cs.toArray 5)).alloc (.cells cs.toArray 5) = w2 at *
  clear hw2 hget hcs hlen hsrc one hc
  refine (notCapture_any (some ⟨w.heap.size, 0, none⟩) len len (zs.take len) w2 (Nat.le_refl _) (Nat.le_trans hl hm) (by simp; omega) (fun _ => ⟨_, _, rfl, fun j hj => by
    rw [Nat.zero_add, hcB j hj, List.getD_eq_getElem?_getD, List.getD_eq_getElem?_getD, List.getElem?_take, if_pos hj]⟩)).mono ?_
  rintro e w3 ⟨rfl, hb3, hs3, s, hn3⟩
  have hE3 : w3.cell? ⟨0, 0, none⟩ = some (.iface 77 (.pointer (some ae))) := by
    have h0 := block_lt_of_cell hE
    simp at h0
    rw [hb3.cell (by simp; omega), hBel.cell h0]
    exact hE
  have hEb3 : w3.heap[ae.block]? = some (.cells cb tb (0, 0)) := by
    have h0 : ae.block < w.heap.size := (Array.getElem?_eq_some_iff.1 hEb).1
    rw [hb3.block _ (by omega), hBel.block _ h0]
    exact hEb
  have hne : (⟨w.heap.size + 3, 0, none⟩ : Addr) ≠ ae := by
    have h0 : ae.block < w.heap.size := (Array.getElem?_eq_some_iff.1 hEb).1
    intro h
    have := congrArg Addr.block h
    simp at this
    omega
  rw [hsz] at hn3
  have hcB3 : ∀ j, j < len → w3.cell? ⟨w.heap.size, j, none⟩ = some (.int .u8 (zs.getD j 0)) := fun j hj => by rw [hb3.cell (by simp; omega)]; exact hcB j hj
  have hcK3 : ∀ j, j < len → w3.cell? ⟨w.heap.size + 1, j, none⟩ = some (.int .u8 (zs.getD j 0)) := fun j hj => by rw [hb3.cell (by simp; omega)]; exact hcK j hj
  have hBel3 : Below w.heap.size w w3 := hBel.trans (hb3.mono (by omega))
  rw [hsz]
  clear hb3 hBel hcB hcK hE hEb
  go_wp2_with fail
  refine (is_other ⟨w.heap.size + 3, 0, none⟩ ae _ cb _ tb w3 hne hn3 hEb3).mono ?_
  rintro e w' ⟨rfl, rfl⟩
  clear hn3 hEb3 hne hE3
  have hszw : w.heap.size + 2 < w'.heap.size := by omega
  clear hs3 hsz
  go_wp2_with fail
  go_loopw [6] (fun i wr => ∃ k : Nat, k ≤ len ∧ i = .int .i64 k ∧ Below w'.heap.size w' wr) (fun i _ => len - (intOf i).toNat)
  case atStart => exact ⟨0, Nat.zero_le _, rfl, Below.refl _ _⟩
  case round =>
    obtain ⟨k, hk, rfl, hwr⟩ := hrel
    by_cases hlt : k < len
    · have hi : (k : Int) < (len : Int) := by omega
      have g1 : wr.cell? ⟨w.heap.size, k, none⟩ = some (.int .u8 (zs.getD k 0)) := by rw [hwr.cell (by simp; omega)]; exact hcB3 k hlt
      have g2 : wr.cell? ⟨w.heap.size + 1, k, none⟩ = some (.int .u8 (zs.getD k 0)) := by rw [hwr.cell (by simp; omega)]; exact hcK3 k hlt
      go_wp2_with fail
      go_quiet (fail)
      go_wp2_with fail
      exact ⟨⟨k + 1, by omega, by go_num, below_drewN hwr nq⟩, by simp [intOf]; omega⟩
    · go_wp2
      go_ret
      exact ⟨rfl, hBel3.trans (hwr.mono (by omega))⟩

set_option maxRecDepth 100000 in
set_option maxHeartbeats 400000 in
theorem refuses_nil (w : World) (ae : Addr) (cb : Array Value) (tb : TypeId) (hE : w.cell? ⟨0, 0, none⟩ = some (.iface 77 (.pointer (some ae)))) (hEb : w.heap[ae.block]? = some (.cells cb tb (0, 0))) :
    Calls Ybaf.prog 3 #[.slice none 0 0] w fun e w' => e = .returned (.bool true) ∧ Below w.heap.size w w' := by
  go_enter Ybaf.func3, Ybaf.ntmps3
  go_wp2_with fail
  refine (acopy_nil w).mono ?_
  rintro e w' ⟨rfl, rfl⟩
  go_wp2_with fail
  refine (acopy_nil w').mono ?_
  rintro e w ⟨rfl, rfl⟩
  go_wp2_with fail
  refine (notCapture_any none 0 0 [] w (Nat.le_refl _) (Nat.zero_le _) rfl (fun h => by omega)).mono ?_
  rintro e w3 ⟨rfl, hb3, hs3, s, hn3⟩
  have hE3 : w3.cell? ⟨0, 0, none⟩ = some (.iface 77 (.pointer (some ae))) := by
    have h0 := block_lt_of_cell hE
    rw [hb3.cell h0]
    exact hE
  have h0 : ae.block < w.heap.size := (Array.getElem?_eq_some_iff.1 hEb).1
  have hEb3 : w3.heap[ae.block]? = some (.cells cb tb (0, 0)) := by
    rw [hb3.block _ h0]
    exact hEb
  have hne : (⟨w.heap.size + 1, 0, none⟩ : Addr) ≠ ae := by
    intro h
    have := congrArg Addr.block h
    simp at this
    omega
  go_wp2_with fail
  refine (is_other ⟨w.heap.size + 1, 0, none⟩ ae _ cb _ tb w3 hne hn3 hEb3).mono ?_
  rintro e w' ⟨rfl, rfl⟩
  clear hn3 hEb3 hne hE3
  go_wp2_with fail
  refine wp_loop_rounds 1 ?_
  rw [rounds_succ]
  go_wp2
  go_ret
  exact ⟨rfl, hb3⟩

theorem refuses_long (a : Option Addr) (len cap : Nat) (w : World) (h : 1024 < len) :
    Calls Ybaf.prog 3 #[.slice a len cap] w fun e w' => e = .returned (.bool true) ∧ Below w.heap.size w w' := by
  have h' : (1024 : Int) < (len : Int) := by omega
  go_enter Ybaf.func3, Ybaf.ntmps3
  go_wp2
  go_ret
  exact ⟨rfl, Below.refl _ _⟩

theorem refuses_walk (a : Option Addr) (len cap : Nat) (zs : List Int) (w : World) (h : IsRow w a len cap zs) (ae : Addr) (cb : Array Value) (tb : TypeId) (hE : w.cell? ⟨0, 0, none⟩ = some (.iface 77 (.pointer (some ae)))) (hEb : w.heap[ae.block]? = some (.cells cb tb (0, 0))) :
    Calls Ybaf.prog 3 #[.slice a len cap] w fun e w' => e = .returned (.bool true) ∧ Below w.heap.size w w' := by
  rcases h with ⟨rfl, rfl, rfl, rfl⟩ | ⟨x, rfl, hl, hm, hz, hcell, _⟩
  · exact refuses_nil w ae cb tb hE hEb
  · by_cases hle : len ≤ 1024
    · exact refuses_some x len cap zs w ae cb tb hl hm hz hcell hE hEb hle
    · exact refuses_long _ _ _ _ (by omega)

end Go.Proofs.YbulkbomyFmt
