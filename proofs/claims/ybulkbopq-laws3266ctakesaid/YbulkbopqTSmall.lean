/-
  The law's small helpers: the one range, the lower place, and the check of a set against the model.
-/
import Derived.Test.YbulkbopqTEnv
import Derived.Deep.QuietTactic
import Derived.BigQuiet
namespace Go.Proofs.Ybulkbopq
open Go.RowKit Go.Sort

theorem point_calls (w : World) (k s : Nat) (hk : k < 256) : Calls Yba.prog 16 #[.int .u8 (k : Nat), .int .u64 (s : Nat)] w fun e w' => e = .returned (.slice (some ⟨w.heap.size, 0, none⟩) 1 1) ∧
    w' = w.alloc (.cells #[.bool false, .int .i64 (k : Nat), .slice none 0 0, .bool false, .int .i64 (k : Nat), .slice none 0 0, .bool false, .bool false, .bool false, .bool false, .int .u64 (s : Nat)] 138) := by
  have hk' : (k : Int) < 256 := by omega
  go_enter Yba.func16, Yba.ntmps16
  go_wp2
  go_ret
  exact ⟨rfl, rfl⟩

theorem min_calls (w : World) (a b : Nat) : Calls Yba.prog 17 #[.int .u64 (a : Nat), .int .u64 (b : Nat)] w fun e w' => e = .returned (.int .u64 (early a b : Nat)) ∧ w' = w := by
  by_cases h1 : a = 0
  · subst h1
    go_enter Yba.func17, Yba.ntmps17
    go_wp2
    go_ret
    exact ⟨by simp [early], rfl⟩
  · have h1' : ((a : Int) == 0) = false := by simp; omega
    by_cases h2 : b = 0
    · subst h2
      go_enter Yba.func17, Yba.ntmps17
      go_wp2
      go_ret
      exact ⟨by simp [early, h1], rfl⟩
    · have h2' : ((b : Int) == 0) = false := by simp; omega
      by_cases h3 : b < a
      · have h3' : (b : Int) < (a : Int) := by omega
        go_enter Yba.func17, Yba.ntmps17
        go_wp2
        go_ret
        exact ⟨by simp [early, h1, h2, h3], rfl⟩
      · have h3' : ¬ (b : Int) < (a : Int) := by omega
        go_enter Yba.func17, Yba.ntmps17
        go_wp2
        go_ret
        exact ⟨by simp [early, h1, h2, h3], rfl⟩

theorem below_step {xs : List (Nat × Nat)} {F : Nat → Option Nat} (h : Rep xs F) (k : Nat) : below xs (k + 1) = below xs k + if (F k).isSome = true then 1 else 0 := by
  rcases below_has h.1 k with ⟨hj, hne⟩ | ⟨hj, old, hget⟩
  · have hF : F k = none := by
      cases hF : F k with
      | none => rfl
      | some o => exact absurd rfl (hne (k, o) ((h.2 k o).2 hF))
    rw [hj, hF]
    simp
  · have hF : F k = some old := (h.2 k old).1 (List.mem_of_getElem? hget)
    rw [hj, hF]
    simp
theorem below_top {xs : List (Nat × Nat)} (h : Ord xs) : below xs 256 = xs.length := by
  unfold below
  rw [List.countP_eq_length]
  intro a ha
  simpa using h.2 a ha
theorem below_get {xs : List (Nat × Nat)} {F : Nat → Option Nat} (h : Rep xs F) {k s : Nat} (hk : F k = some s) : xs[below xs k]? = some (k, s) := by
  obtain ⟨i, hi⟩ := List.getElem?_of_mem ((h.2 k s).2 hk)
  have := at_below h.1 hi
  rw [show below xs k = i from this]
  exact hi

/-- The model's two rows: which keys there are, and their places. -/
def Mod (w : World) (bh oh bs os : Nat) (F : Nat → Option Nat) : Prop := ∀ k, k < 256 → w.cell? ⟨bh, oh + k, none⟩ = some (.bool (F k).isSome) ∧ w.cell? ⟨bs, os + k, none⟩ = some (.int .u64 ((F k).getD 0 : Nat))

set_option maxRecDepth 100000 in
set_option maxHeartbeats 1000000 in
theorem cset_calls (w : World) (v : Value) (xs : List (Nat × Nat)) (F : Nat → Option Nat) (bh oh bs os : Nat) (hown : Own w v xs) (hrep : Rep xs F) (hm : Mod w bh oh bs os F) :
    Calls Yba.prog 19 #[v, .pointer (some ⟨bh, oh, none⟩), .pointer (some ⟨bs, os, none⟩)] w fun e w' => e = .returned (.bool true) ∧ Gr w w' := by
  obtain ⟨g, hr⟩ := hown.rd
  obtain ⟨⟨a, cap, rfl, ha⟩, hcells⟩ := hr
  have hlen := hrep.1.len
  obtain ⟨n, Hn⟩ : ∃ n, Hid (xs.length = n) := ⟨_, rfl⟩
  rw [Hn.out] at ha hlen
  rw [Hn.out]
  have hln : (n : Int) ≤ 256 := by omega
  have hbl : ∀ k, below xs k ≤ n := fun k => by rw [← Hn.out]; exact below_le xs k
  have hbt : below xs 256 = n := by rw [← Hn.out]; exact below_top hrep.1
  have Hm : Hid (Mod w bh oh bs os F) := hm
  have Hc : Hid (∀ i p, xs[i]? = some p → Pt w g (i * 11) p.1 ∧ w.cell? ⟨g, i * 11 + 10, none⟩ = some (.int .u64 (p.2 : Nat))) := hcells
  have Hr : Hid (Rep xs F) := hrep
  have Hb : Hid ((∀ k, below xs k ≤ n) ∧ below xs 256 = n) := ⟨hbl, hbt⟩
  have Ha : Hid (0 < n → a = some ⟨g, 0, none⟩) := ha
  clear hm hcells hrep hown hbl hbt ha hlen
  go_enter Yba.func19, Yba.ntmps19
  go_wp2_with fail
  go_loopg [7, 8] 256 (fun gm s7 s8 wr => ∃ k m, k ≤ 256 ∧ gm = 256 - k ∧ s8 = .int .i64 (k : Nat) ∧ s7 = .int .i64 (m : Nat) ∧ Hid (m = below xs k) ∧ wr = w)
  case atStart => exact ⟨0, 0, by omega, rfl, rfl, rfl, (by unfold below; rw [eq_comm, List.countP_eq_zero]; intro a _; simp), rfl⟩
  case round =>
    obtain ⟨k, m, hk, rfl, rfl, rfl, Hmk, rfl⟩ := hrel
    obtain ⟨w, rfl⟩ : ∃ W, W = wr := ⟨_, rfl⟩
    by_cases hlt : k < 256
    · have hk' : (k : Int) < 256 := by omega
      have h1 := (Hm.out k hlt).1
      have hst := below_step Hr.out k
      have hb1 := Hb.out.1 k
      have hmb : (m : Int) ≤ 256 := by have := Hmk.out; omega
      cases hF : (F k).isSome with
      | true =>
        rw [hF] at h1 hst
        have Hnew : Hid (m + 1 = below xs (k + 1)) := by show _ = _; rw [hst, ← Hmk.out]; rfl
        clear hst hb1
        go_wp2_with fail
        go_roundg (256 - (k + 1))
        case measure => omega
        case rel => exact ⟨k + 1, m + 1, by omega, rfl, by go_num, by go_num, Hnew.out, rfl⟩
      | false =>
        rw [hF] at h1 hst
        have Hnew : Hid (m = below xs (k + 1)) := by show _ = _; rw [hst, ← Hmk.out]; rfl
        clear hst hb1
        go_wp2_with fail
        go_roundg (256 - (k + 1))
        case measure => omega
        case rel => exact ⟨k + 1, m, by omega, rfl, by go_num, rfl, Hnew.out, rfl⟩
    · have hk' : ¬ (k : Int) < 256 := by omega
      obtain rfl : k = 256 := by omega
      obtain rfl : m = n := by rw [Hmk.out, Hb.out.2]
      go_wp2_with fail
      go_loopg [9, 10] 256 (fun gm s9 s10 wr => ∃ k i, k ≤ 256 ∧ gm = 256 - k ∧ s10 = .int .i64 (k : Nat) ∧ s9 = .int .i64 (i : Nat) ∧ Hid (i = below xs k) ∧ Hid (Gr w wr))
      case atStart => exact ⟨0, 0, by omega, rfl, rfl, rfl, (by show _ = _; unfold below; rw [eq_comm, List.countP_eq_zero]; intro a _; simp), Gr.refl _⟩
      case round =>
        obtain ⟨k, i, hk, rfl, rfl, rfl, Hik, Hg⟩ := hrel
        by_cases hlt : k < 256
        · have hk' : (k : Int) < 256 := by omega
          have h1 := Hg.out.cell_of (Hm.out k hlt).1
          have h2 := Hg.out.cell_of (Hm.out k hlt).2
          have hst := below_step Hr.out k
          cases hF : F k with
          | none =>
            rw [hF] at h1 hst
            have Hnew : Hid (i = below xs (k + 1)) := by show _ = _; rw [hst, ← Hik.out]; rfl
            clear hst h2
            go_wp2_with fail
            go_roundg (256 - (k + 1))
            case measure => omega
            case rel => exact ⟨k + 1, i, by omega, rfl, by go_num, rfl, Hnew.out, Hg⟩
          | some s =>
            rw [hF] at h1 h2 hst
            have hget := below_get Hr.out hF
            rw [← Hik.out] at hget
            have hlt2 : i < m := by rw [← Hn.out]; exact (List.getElem?_eq_some_iff.1 hget).1
            have hi' : (i : Int) < (m : Int) := by omega
            obtain rfl := Ha.out (by omega)
            obtain ⟨hp, hs⟩ := Hc.out i _ hget
            have hs' := Hg.out.cell_of hs
            obtain ⟨a0, a1, a2, a3, a4, a5, a6, a7, a8, a9⟩ := hp.gr Hg.out
            have Hnew : Hid (i + 1 = below xs (k + 1)) := by show _ = _; rw [hst, ← Hik.out]; rfl
            have Hg2 : Hid (Gr w (wr.alloc (.cells #[.bool false, .int .i64 (k : Nat), .slice none 0 0, .bool false, .int .i64 (k : Nat), .slice none 0 0, .bool false, .bool false, .bool false, .bool false, .int .u64 (s : Nat)] 138))) := Hg.out.alloc _
            have h2' := ((Gr.refl wr).alloc (.cells #[.bool false, .int .i64 (k : Nat), .slice none 0 0, .bool false, .int .i64 (k : Nat), .slice none 0 0, .bool false, .bool false, .bool false, .bool false, .int .u64 (s : Nat)] 138)).cell_of h2
            clear hst hget hp hs hlt2
            go_wp2_with fail
            have hE := El.new wr k s
            clear a0 a1 a2 a3 a4 a5 a6 a7 a8 a9 hs' h1 h2
            generalize wr.alloc (.cells #[.bool false, .int .i64 (k : Nat), .slice none 0 0, .bool false, .int .i64 (k : Nat), .slice none 0 0, .bool false, .bool false, .bool false, .bool false, .int .u64 (s : Nat)] 138) = W1 at *
            obtain ⟨⟨a0, a1, a2, a3, a4, a5, a6, a7, a8, a9⟩, a10⟩ := hE
            go_quiet (fail)
            go_wp2_with fail
            go_roundg (256 - (k + 1))
            case measure => omega
            case rel => exact ⟨k + 1, i + 1, by omega, rfl, by go_num, by go_num, Hnew.out, Hg2.out.drewN _⟩
        · have hk' : ¬ (k : Int) < 256 := by omega
          go_wp2_with fail
          go_ret
          exact ⟨rfl, Hg.out⟩

end Go.Proofs.Ybulkbopq
