/-
  zzs3261cmatch by its contract.
-/
import Derived.Test.YbulkbomyFmtDecode
namespace Go.Proofs.YbulkbomyFmt
open Go.RowKit

set_option maxRecDepth 100000 in
set_option maxHeartbeats 400000 in
theorem match_yes (w : World) (b base bv bn : Nat) (es : List (Int × List Int)) (us : Nat → Value) (hdec : Dec w base b es)
    (hseen : ∀ c : Nat, c < 256 → w.cell? ⟨bn, c, none⟩ = some (.bool (Pl.seen es c))) (hvals : ∀ c : Nat, c < 256 → w.cell? ⟨bv, c, none⟩ = some (us c)) (hby : ∀ c : Nat, c < 256 → Bytes w (us c) (Pl.vals es c)) :
    Calls Ybaf.prog 14 #[.map (some b), .pointer (some ⟨bv, 0, none⟩), .pointer (some ⟨bn, 0, none⟩), .int .i64 (Pl.cnt es)] w fun e w' => e = .returned (.bool true) ∧ ∃ n, w' = w.drewN n := by
  obtain ⟨f, vs, hmap, hfam, hfv⟩ := hdec
  have hnil := fun (w : World) => run_eql_map_nil (P := Ybaf.prog) w 31 5 22 (some b) Ybaf.underlying31
  have hlen := hmap.len (P := Ybaf.prog) Ybaf.underlying31 3
  have hne : ((Pl.cnt es : Int) != (Pl.cnt es : Int)) = false := by simp
  go_enter Ybaf.func14, Ybaf.ntmps14
  go_wp2_with fail
  go_loopw [9] (fun i wr => ∃ k d : Nat, k ≤ 256 ∧ i = .int .i64 k ∧ wr = w.drewN d) (fun i _ => 256 - (intOf i).toNat)
  case atStart => exact ⟨0, 0, Nat.zero_le _, rfl, rfl⟩
  case round =>
    obtain ⟨k, d, hk, rfl, rfl⟩ := hrel
    by_cases hlt : k < 256
    · have hi : (k : Int) < 256 := by omega
      have g1 := hseen k hlt
      have g2 := hvals k hlt
      have hb := hby k hlt
      have hf := hfv k hlt
      have hmd : MapIs (w.drewN d) .u8 b f (Pl.cnt es) := hmap
      have hlk := hmd.lookup (P := Ybaf.prog) Ybaf.underlying31 Ybaf.underlying5 (zero22 (w.drewN d)) k
      have ho := (hfam.1 k hlt).bytes
      cases hs : Pl.seen es k with
      | true =>
        rw [hs] at g1 hf
        simp only [if_true] at hf
        rw [hf] at hlk
        simp only [Option.getD_some, Option.isSome_some] at hlk
        clear hf hfv hfam hmap hlen hnil hseen hvals hby hmd
        have Hs : Hid (Pl.seen es k = true) := hs
        clear hs
        go_wp2_with fail
        refine (same_yes (vs k) (us k) _ (w.drewN d) ho hb).mono ?_
        rintro e w' ⟨rfl, nq, rfl⟩
        go_wp2_with fail
        exact ⟨⟨k + 1, d + nq, by omega, by go_num, by simp⟩, by simp [intOf]; omega⟩
      | false =>
        rw [hs] at g1 hf
        simp only [Bool.false_eq_true, if_false] at hf
        rw [hf] at hlk
        simp only [Option.getD_none, Option.isSome_none] at hlk
        clear hf hfv hfam hmap hlen hnil hseen hvals hby hmd
        have Hs : Hid (Pl.seen es k = false) := hs
        clear hs
        go_wp2_with fail
        exact ⟨⟨k + 1, d, by omega, by go_num, rfl⟩, by simp [intOf]; omega⟩
    · go_wp2
      go_ret
      exact ⟨rfl, d, rfl⟩

end Go.Proofs.YbulkbomyFmt
