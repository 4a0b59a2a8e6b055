/-
  zzs3266btop, zzs3266bstatus, subtransParents.top, commitLog.status by their contracts.
-/
import Derived.Test.YbulkbopqArr
namespace Go.Proofs.Ybulkbopq
open Go.RowKit

def pv : Option Nat → Int
  | none => -1
  | some p => (p : Nat)
/-- The array of parents. -/
def ParV (P : Nat → Option Nat) (c : Nat) : Value := .int .i64 (pv (P c))

theorem btop_calls (w : World) (B : Nat) (P : Nat → Option Nat) (hP : ∀ i p, P i = some p → p < i) (hA : Arr w B 122 256 (ParV P)) (i : Nat) (hi : i < 256) :
    Calls Yba.prog 14 #[.pointer (some ⟨B, 0, none⟩), .int .i64 (i : Nat)] w fun e w' => e = .returned (.int .i64 (Pl.top P i : Nat)) ∧ w' = w := by
  go_enter Yba.func14, Yba.ntmps14
  go_wp2_with fail
  go_loopw [1] (fun iv wr => ∃ j, j < 256 ∧ iv = .int .i64 (j : Nat) ∧ Pl.top P j = Pl.top P i ∧ wr = w) (fun iv _ => (intOf iv).toNat)
  case atStart => exact ⟨i, hi, rfl, rfl, rfl⟩
  case round =>
    obtain ⟨j, hj, rfl, ht, rfl⟩ := hrel
    have g := hA.cell hj
    have hj' : (j : Int) < 256 := by omega
    simp only [ParV] at g
    cases hp : P j with
    | none =>
      rw [hp] at g
      simp only [pv] at g
      go_wp2_with fail
      go_ret
      exact ⟨by rw [← ht, Pl.top_none hp]; rfl, rfl⟩
    | some p =>
      have hlt := hP j p hp
      rw [hp] at g
      simp only [pv] at g
      go_wp2_with fail
      exact ⟨⟨p, by omega, rfl, by rw [← ht, Pl.top_some hP hp], trivial⟩, by simp [intOf]; omega⟩

theorem bstatus_calls (w : World) (pb po cap k : Nat) (s : Nat → Nat) (hcell : ∀ j, j < k → w.cell? ⟨pb, po + j, none⟩ = some (.int .u8 (s j : Nat))) (hs : ∀ j, s j < 256) (i : Nat) :
    Calls Yba.prog 15 #[.slice (some ⟨pb, po, none⟩) k cap, .int .i64 (i : Nat)] w fun e w' => e = .returned (.int .u8 (Pl.dg s k i : Nat)) ∧ w' = w := by
  by_cases hlt : i < k
  · have g := hcell i hlt
    have h1 : (i : Int) < (k : Int) := by omega
    have h2 : Pl.dg s k i = s i % 4 := by simp [Pl.dg, hlt]
    have h3 := and3 (hs i)
    rw [h2]
    go_enter Yba.func15, Yba.ntmps15
    go_wp2
    go_ret
    exact ⟨by simp, rfl⟩
  · have h1 : ¬ (i : Int) < (k : Int) := by omega
    have h2 : Pl.dg s k i = 0 := by simp [Pl.dg, hlt]
    rw [h2]
    go_enter Yba.func15, Yba.ntmps15
    go_wp2
    go_ret
    exact ⟨rfl, rfl⟩

theorem bstatus_nil (w : World) (s : Nat → Nat) (i : Nat) :
    Calls Yba.prog 15 #[.slice none 0 0, .int .i64 (i : Nat)] w fun e w' => e = .returned (.int .u8 (Pl.dg s 0 i : Nat)) ∧ w' = w := by
  have h1 : ¬ (i : Int) < 0 := by omega
  have h2 : Pl.dg s 0 i = 0 := by simp [Pl.dg]
  rw [h2]
  go_enter Yba.func15, Yba.ntmps15
  go_wp2
  go_ret
  exact ⟨rfl, rfl⟩

/-- The map of parents. -/
def mapF (P : Nat → Option Nat) (k : Int) : Option Value := (P k.toNat).map fun p => .int .u32 (p : Nat)

theorem top_calls (w : World) (M n : Nat) (P : Nat → Option Nat) (hP : ∀ i p, P i = some p → p < i) (hM : MapIs w .u32 M (mapF P) n) (i : Nat) (hi : i < 256) :
    Calls Yba.prog 22 #[.map (some M), .int .u32 (i : Nat)] w fun e w' => e = .returned (.int .u32 (Pl.top P i : Nat)) ∧ w' = w := by
  go_enter Yba.func22, Yba.ntmps22
  go_wp2_with fail
  go_loopw [1] (fun iv wr => ∃ j, j < 256 ∧ iv = .int .u32 (j : Nat) ∧ Pl.top P j = Pl.top P i ∧ wr = w) (fun iv _ => (intOf iv).toNat)
  case atStart => exact ⟨i, hi, rfl, rfl, rfl⟩
  case round =>
    obtain ⟨j, hj, rfl, ht, rfl⟩ := hrel
    have g := hM.lookup (P := Yba.prog) Yba.underlying55 Yba.underlying23 (z := .int .u32 0) (by kernel_rfl) (j : Int)
    simp only [mapF, Int.toNat_natCast] at g
    cases hp : P j with
    | none =>
      rw [hp] at g
      simp only [Option.map_none, Option.getD_none, Option.isSome_none] at g
      go_wp2_with fail
      go_ret
      exact ⟨by rw [← ht, Pl.top_none hp]; rfl, rfl⟩
    | some p =>
      have hlt := hP j p hp
      rw [hp] at g
      simp only [Option.map_some, Option.getD_some, Option.isSome_some] at g
      go_wp2_with fail
      exact ⟨⟨p, by omega, rfl, by rw [← ht, Pl.top_some hP hp], trivial⟩, by simp [intOf]; omega⟩

/-- The commit log at block C: one segment, at block S, which is the row R of bytes. -/
def Log (w : World) (C S R : Nat) (s : Nat → Nat) (k : Nat) : Prop :=
  w.cell? ⟨C, 1, none⟩ = some (.slice (some ⟨S, 0, none⟩) 1 1) ∧ w.cell? ⟨S, 0, none⟩ = some (.slice (some ⟨R, 0, none⟩) ((k + 3) / 4) ((k + 3) / 4)) ∧ Arr w R 5 ((k + 3) / 4) (fun j => .int .u8 (Pl.pk (Pl.dg s k) j : Nat))

set_option maxRecDepth 100000 in
theorem status_calls (w : World) (C S R : Nat) (s : Nat → Nat) (k : Nat) (hL : Log w C S R s k) (i : Nat) (hi : i < 256) :
    Calls Yba.prog 23 #[.pointer (some ⟨C, 0, none⟩), .int .u32 (i : Nat)] w fun e w' => e = .returned (.int .u8 (Pl.dg s k i : Nat)) ∧ w' = w := by
  obtain ⟨c1, c2, hA⟩ := hL
  have hi' : (i : Int) < 256 := by omega
  have hd : (i : Int) / 1048576 = 0 := by omega
  have hm : (i : Int) % 1048576 = i := by omega
  by_cases hlt : i / 4 < (k + 3) / 4
  · have g := hA.cell hlt
    have h1 : ¬ ((((k + 3) / 4 : Nat) : Int) ≤ ((i / 4 : Nat) : Int)) := by omega
    go_enter Yba.func23, Yba.ntmps23
    go_wp2
    go_ret
    refine ⟨?_, rfl⟩
    have hb : Pl.pk (Pl.dg s k) (i / 4) / 4 ^ (i % 4) < 256 := Nat.lt_of_le_of_lt (Nat.div_le_self _ _) (Pl.pk_lt s k (i / 4))
    have e : bits .and .u8 (((Pl.pk (Pl.dg s k) (i / 4) : Nat) : Int) / 2 ^ (i % 4 * 2)) 3 = ((Pl.dg s k i : Nat) : Int) := by
      rw [Nat.mul_comm (i % 4) 2, shr_digit, and3 hb, Pl.pk_read]
    exact congrArg (fun x => Ending.returned (.int .u8 x)) e
  · have h1 : ((((k + 3) / 4 : Nat) : Int) ≤ ((i / 4 : Nat) : Int)) := by omega
    have h2 : Pl.dg s k i = 0 := Pl.dg_over s k i (by omega)
    rw [h2]
    go_enter Yba.func23, Yba.ntmps23
    go_wp2
    go_ret
    exact ⟨rfl, rfl⟩

end Go.Proofs.Ybulkbopq
