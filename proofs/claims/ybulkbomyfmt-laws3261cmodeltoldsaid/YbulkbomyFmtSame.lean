/-
  zzs3261csame by its contract.
-/
import Derived.Test.YbulkbomyFmtChecked
import Derived.WalkKit
import Derived.WalkSpells
import Derived.WalkLawsBesides
import Derived.Deep.QuietTactic
import Derived.BigQuiet
namespace Go.Proofs.YbulkbomyFmt
open Go.RowKit

/-- A slice of bytes that reads as xs. -/
def Bytes (w : World) (v : Value) (xs : List Int) : Prop :=
  ∃ a cap, v = .slice a xs.length cap ∧ xs.length ≤ maxLen ∧ (0 < xs.length → ∃ b o, a = some ⟨b, o, none⟩ ∧ ∀ j, j < xs.length → w.cell? ⟨b, o + j, none⟩ = some (.int .u8 (xs.getD j 0)))

set_option maxRecDepth 100000 in
set_option maxHeartbeats 400000 in
theorem same_yes (v v' : Value) (xs : List Int) (w : World) (h : Bytes w v xs) (h' : Bytes w v' xs) :
    Calls Ybaf.prog 13 #[v, v'] w fun e w' => e = .returned (.bool true) ∧ ∃ n, w' = w.drewN n := by
  obtain ⟨a, cap, rfl, hm, hc⟩ := h
  obtain ⟨a', cap', rfl, _, hc'⟩ := h'
  unfold maxLen at hm
  by_cases h0 : xs.length = 0
  · rw [h0]
    go_enter Ybaf.func13, Ybaf.ntmps13
    go_wp2_with fail
    refine wp_loop_rounds 1 ?_
    rw [rounds_succ]
    go_wp2
    go_ret
    exact ⟨rfl, 0, rfl⟩
  · obtain ⟨b, o, rfl, hcell⟩ := hc (by omega)
    obtain ⟨b', o', rfl, hcell'⟩ := hc' (by omega)
    clear hc hc'
    generalize hn : xs.length = n at *
    have hne : ((n : Int) != (n : Int)) = false := by simp
    go_enter Ybaf.func13, Ybaf.ntmps13
    go_wp2_with fail
    go_loopw [5] (fun i wr => ∃ k d : Nat, k ≤ n ∧ i = .int .i64 k ∧ wr = w.drewN d) (fun i _ => n - (intOf i).toNat)
    case atStart => exact ⟨0, 0, Nat.zero_le _, rfl, rfl⟩
    case round =>
      obtain ⟨k, d, hk, rfl, rfl⟩ := hrel
      by_cases hlt : k < n
      · have hi : (k : Int) < (n : Int) := by omega
        have g1 : w.cell? ⟨b, o + k, none⟩ = some (.int .u8 (xs.getD k 0)) := hcell k hlt
        have g2 : w.cell? ⟨b', o' + k, none⟩ = some (.int .u8 (xs.getD k 0)) := hcell' k hlt
        go_wp2_with fail
        go_quiet (fail)
        go_wp2_with fail
        exact ⟨⟨k + 1, d + nq, by omega, by go_num, by simp⟩, by simp [intOf]; omega⟩
      · go_wp2
        go_ret
        exact ⟨rfl, d, rfl⟩

end Go.Proofs.YbulkbomyFmt
