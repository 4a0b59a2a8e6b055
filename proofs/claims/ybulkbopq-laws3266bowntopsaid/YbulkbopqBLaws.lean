/-
  LawS3266BModel, LawS3266BOwnTop: they return true.
-/
import Derived.Test.YbulkbopqBuild
namespace Go.Proofs.Ybulkbopq
open Go.RowKit

/-- A slice of bytes that came in. -/
def SrcB (w : World) (a0 : Option Addr) (k : Nat) (s : Nat → Nat) : Prop :=
  (∀ j, s j < 256) ∧ (0 < k → ∃ pb po, a0 = some ⟨pb, po, none⟩ ∧ pb < w.heap.size ∧ ∀ j, j < k → w.cell? ⟨pb, po + j, none⟩ = some (.int .u8 (s j : Nat)))
/-- A slice of links that came in. -/
def SrcL (w : World) (a1 : Option Addr) (l : Nat) (ch pa : Nat → Nat) : Prop :=
  (∀ j, ch j < 256) ∧ (∀ j, pa j < 256) ∧ (0 < l → ∃ qb qo, a1 = some ⟨qb, qo, none⟩ ∧ qb < w.heap.size ∧ ∀ j, j < l → w.cell? ⟨qb, qo + j * 2, none⟩ = some (.int .u8 (ch j : Nat)) ∧ w.cell? ⟨qb, qo + j * 2 + 1, none⟩ = some (.int .u8 (pa j : Nat)))

theorem bstatus_any {w w' : World} {a0 : Option Addr} {k : Nat} {s : Nat → Nat} (h : SrcB w a0 k s) (hb : Below w.heap.size w w') (cap i : Nat) :
    Calls Yba.prog 15 #[.slice a0 k cap, .int .i64 (i : Nat)] w' fun e w'' => e = .returned (.int .u8 (Pl.dg s k i : Nat)) ∧ w'' = w' := by
  by_cases hk : 0 < k
  · obtain ⟨pb, po, rfl, hpb, hcell⟩ := h.2 hk
    exact bstatus_calls w' pb po cap k s (fun j hj => by rw [hb.cell hpb]; exact hcell j hj) h.1 i
  · obtain rfl : k = 0 := by omega
    have h1 : ¬ (i : Int) < 0 := by omega
    have h2 : Pl.dg s 0 i = 0 := by simp [Pl.dg]
    rw [h2]
    go_enter Yba.func15, Yba.ntmps15
    go_wp2
    go_ret
    exact ⟨rfl, rfl⟩

theorem eqTrue (d : Nat) : Ending.returned (.bool ((!decide (d = 2)) == (((d : Nat) : Int) != 2))) = .returned (.bool true) := by
  by_cases h2 : d = 2
  · rw [h2]; rfl
  · have : (((d : Nat) : Int) == 2) = false := by simp; omega
    simp [bne, this, h2]

set_option maxRecDepth 100000 in
set_option maxHeartbeats 400000 in
theorem model_walk (w : World) (a0 a1 : Option Addr) (k cap0 l cap1 : Nat) (s ch pa : Nat → Nat) (hs : SrcB w a0 k s) (hl : SrcL w a1 l ch pa) (i t : Nat) (hi : i < 256) (ht : t < 256) :
    Calls Yba.prog 5 #[.slice a0 k cap0, .slice a1 l cap1, .int .u8 (i : Nat), .int .u8 (t : Nat)] w fun e w' => e = .returned (.bool true) ∧ Below w.heap.size w w' := by
  by_cases hk : k ≤ 1024
  · by_cases hl' : l ≤ 1024
    · have k1 : ¬ (1024 : Int) < (k : Int) := by omega
      have l1 : ¬ (1024 : Int) < (l : Int) := by omega
      have i1 : (i : Int) < 256 := by omega
      have t1 : (t : Int) < 256 := by omega
      have hP := Pl.par_lt (lks ch pa l)
      go_enter Yba.func5, Yba.ntmps5
      go_wp2_with fail
      refine (build_calls w a0 a1 k cap0 l cap1 s ch pa hk hl' hs.1 hl.1 hl.2.1 hs.2 hl.2.2).mono ?_
      rintro e w1 ⟨X, C, S, R, M, A, n, rfl, hX, hL, hM, hA, hXR, hXM, hB⟩
      go_wp2_with fail
      refine (partOf_calls w1 X C S R M n s k _ hP hX hL hM hXR hXM i hi t).mono ?_
      rintro e w2 ⟨rfl, rfl⟩
      go_wp2_with fail
      refine (btop_calls w2 A _ hP hA i hi).mono ?_
      rintro e w3 ⟨rfl, rfl⟩
      by_cases htt : Pl.top (Pl.par (lks ch pa l)) i = t
      · have e1 : (((Pl.top (Pl.par (lks ch pa l)) i : Nat) : Int) == ((t : Nat) : Int)) = true := by rw [htt]; simp
        go_wp2_with fail
        refine (bstatus_any hs hB cap0 i).mono ?_
        rintro e w4 ⟨rfl, rfl⟩
        go_wp2_with fail
        go_ret
        exact ⟨eqTrue (Pl.dg s k i), hB⟩
      · have e1 : (((Pl.top (Pl.par (lks ch pa l)) i : Nat) : Int) == ((t : Nat) : Int)) = false := by simp; omega
        go_wp2_with fail
        go_ret
        exact ⟨rfl, hB⟩
    · have k1 : ¬ (1024 : Int) < (k : Int) := by omega
      have l1 : (1024 : Int) < (l : Int) := by omega
      go_enter Yba.func5, Yba.ntmps5
      go_wp2_with fail
      go_ret
      exact ⟨rfl, Below.refl _ _⟩
  · have k1 : (1024 : Int) < (k : Int) := by omega
    go_enter Yba.func5, Yba.ntmps5
    go_wp2_with fail
    go_ret
    exact ⟨rfl, Below.refl _ _⟩

set_option maxRecDepth 100000 in
set_option maxHeartbeats 400000 in
theorem ownTop_walk (w : World) (a0 a1 : Option Addr) (k cap0 l cap1 : Nat) (s ch pa : Nat → Nat) (hs : SrcB w a0 k s) (hl : SrcL w a1 l ch pa) (i : Nat) (hi : i < 256) :
    Calls Yba.prog 6 #[.slice a0 k cap0, .slice a1 l cap1, .int .u8 (i : Nat)] w fun e w' => e = .returned (.bool true) ∧ Below w.heap.size w w' := by
  by_cases hk : k ≤ 1024
  · by_cases hl' : l ≤ 1024
    · have k1 : ¬ (1024 : Int) < (k : Int) := by omega
      have l1 : ¬ (1024 : Int) < (l : Int) := by omega
      have i1 : (i : Int) < 256 := by omega
      have hP := Pl.par_lt (lks ch pa l)
      have htop : Pl.top (Pl.par (lks ch pa l)) i ≤ i := Pl.top_le hP (i + 1) i (by omega)
      go_enter Yba.func6, Yba.ntmps6
      go_wp2_with fail
      refine (build_calls w a0 a1 k cap0 l cap1 s ch pa hk hl' hs.1 hl.1 hl.2.1 hs.2 hl.2.2).mono ?_
      rintro e w1 ⟨X, C, S, R, M, A, n, rfl, hX, hL, hM, hA, hXR, hXM, hB⟩
      have c8 : w1.cell? ⟨X, 8, none⟩ = some (.map (some M)) := by obtain ⟨_, _, _, _, _, _, _, _, _, h⟩ := hX; exact h
      have hlen := hM.len (P := Yba.prog) Yba.underlying55 3
      go_wp2_with fail
      refine (btop_calls w1 A _ hP hA i hi).mono ?_
      rintro e w2 ⟨rfl, rfl⟩
      generalize hT : Pl.top (Pl.par (lks ch pa l)) i = T at *
      have t1 : (T : Int) < 256 := by omega
      go_wp2_with fail
      refine (bstatus_any hs hB cap0 i).mono ?_
      rintro e w3 ⟨rfl, rfl⟩
      have part : ∀ t : Nat, Calls Yba.prog 13 #[.pointer (some ⟨X, 0, none⟩), .int .u32 (i : Nat), .int .u32 (t : Nat)] w3 fun e w' => e = .returned (.bool (decide (T = t) && !decide (Pl.dg s k i = 2))) ∧ w' = w3 := fun t => by
        have h := partOf_calls w3 X C S R M n s k _ hP hX hL hM hXR hXM i hi t
        rw [hT] at h
        exact h
      have p1 := part T
      have p2 : Calls Yba.prog 13 #[.pointer (some ⟨X, 0, none⟩), .int .u32 (i : Nat), .int .u32 ((T : Int) + 256)] w3 fun e w' => e = .returned (.bool (decide (T = T + 256) && !decide (Pl.dg s k i = 2))) ∧ w' = w3 := part (T + 256)
      have hd2 : decide (T = T + 256) = false := by simp
      rw [decide_eq_true rfl, Bool.true_and] at p1
      rw [hd2, Bool.false_and] at p2
      clear part hd2 hM hA hX hL hs hl hP hT
      by_cases hd : Pl.dg s k i = 2
      · rw [decide_eq_true hd] at p1
        rw [hd]
        clear hd
        go_wp2_with fail
        refine p1.mono ?_
        rintro e w4 ⟨rfl, rfl⟩
        go_wp2_with fail
        refine p2.mono ?_
        rintro e w4 ⟨rfl, rfl⟩
        go_wp2_with fail
        go_ret
        exact ⟨rfl, hB⟩
      · have hd' : (((Pl.dg s k i : Nat) : Int) == 2) = false := by simp; omega
        have hd'' : (((Pl.dg s k i : Nat) : Int) != 2) = true := by rw [bne, hd']; rfl
        rw [decide_eq_false hd] at p1
        generalize Pl.dg s k i = d at *
        go_wp2_with fail
        refine p1.mono ?_
        rintro e w4 ⟨rfl, rfl⟩
        go_wp2_with fail
        refine p2.mono ?_
        rintro e w4 ⟨rfl, rfl⟩
        go_wp2_with fail
        go_ret
        exact ⟨rfl, hB⟩
    · have k1 : ¬ (1024 : Int) < (k : Int) := by omega
      have l1 : (1024 : Int) < (l : Int) := by omega
      go_enter Yba.func6, Yba.ntmps6
      go_wp2_with fail
      go_ret
      exact ⟨rfl, Below.refl _ _⟩
  · have k1 : (1024 : Int) < (k : Int) := by omega
    go_enter Yba.func6, Yba.ntmps6
    go_wp2_with fail
    go_ret
    exact ⟨rfl, Below.refl _ _⟩
end Go.Proofs.Ybulkbopq
