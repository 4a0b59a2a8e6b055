/-
  The ranges of one key: how they compare.
-/
import Derived.Test.YbulkbopqTGr
import Derived.Shelf.SlSortCmp.QuietGrown
namespace Go.Proofs.Ybulkbopq
open Go.RowKit Go.Sort

/-- At block b, from cell o on, lies the range that holds just the key k. -/
def Pt (w : World) (b o k : Nat) : Prop :=
  w.cell? ⟨b, o, none⟩ = some (.bool false) ∧ w.cell? ⟨b, o + 1, none⟩ = some (.int .i64 (k : Nat)) ∧ w.cell? ⟨b, o + 2, none⟩ = some (.slice none 0 0) ∧
  w.cell? ⟨b, o + 3, none⟩ = some (.bool false) ∧ w.cell? ⟨b, o + 4, none⟩ = some (.int .i64 (k : Nat)) ∧ w.cell? ⟨b, o + 5, none⟩ = some (.slice none 0 0) ∧
  w.cell? ⟨b, o + 6, none⟩ = some (.bool false) ∧ w.cell? ⟨b, o + 7, none⟩ = some (.bool false) ∧ w.cell? ⟨b, o + 8, none⟩ = some (.bool false) ∧ w.cell? ⟨b, o + 9, none⟩ = some (.bool false)

theorem Pt.gr {w w' : World} {b o k : Nat} (h : Pt w b o k) (g : Gr w w') : Pt w' b o k := by
  obtain ⟨h0, h1, h2, h3, h4, h5, h6, h7, h8, h9⟩ := h
  exact ⟨g.cell_of h0, g.cell_of h1, g.cell_of h2, g.cell_of h3, g.cell_of h4, g.cell_of h5, g.cell_of h6, g.cell_of h7, g.cell_of h8, g.cell_of h9⟩

theorem mixed : Yba.prog.follows .mixedOrders = true := by kernel_rfl

set_option maxRecDepth 100000 in
theorem empty_calls (w : World) (b o k : Nat) (h : Pt w b o k) : Calls Yba.prog 43 #[.pointer (some ⟨b, o, none⟩)] w fun e w' => e = .returned (.bool false) ∧ Gr w w' := by
  have c := fun W => keys_calls W k k
  have e0 : kcmp k k = 0 := by simp [kcmp]
  rw [e0] at c
  have ha : ∀ n os, Pt (grow (w.drewN n) os) b o k := fun n os => h.gr ⟨n, os, rfl⟩
  obtain ⟨h0, h1, h2, h3, h4, h5, h6, h7, h8, h9⟩ := h
  have q0 := fun n os => (ha n os).1
  have q1 := fun n os => (ha n os).2.1
  have q2 := fun n os => (ha n os).2.2.1
  have q3 := fun n os => (ha n os).2.2.2.1
  have q4 := fun n os => (ha n os).2.2.2.2.1
  have q5 := fun n os => (ha n os).2.2.2.2.2.1
  have q8 := fun n os => (ha n os).2.2.2.2.2.2.2.2.1
  have q9 := fun n os => (ha n os).2.2.2.2.2.2.2.2.2
  clear ha
  have hmix := mixed
  go_enter Yba.func43, Yba.ntmps43
  go_wp2_with fail
  go_quiet_grown (first | (go_at_call 47; refine Calls.grown_of (c _)))
  go_wp2_with fail
  go_ret
  exact ⟨rfl, nq, osq, rfl⟩


set_option maxRecDepth 100000 in
theorem before_calls (w : World) (b o k b2 o2 k2 : Nat) (h : Pt w b o k) (g : Pt w b2 o2 k2) :
    Calls Yba.prog 50 #[.pointer (some ⟨b, o, none⟩), .pointer (some ⟨b2, o2, none⟩)] w fun e w' => e = .returned (.bool (decide (k < k2))) ∧ Gr w w' := by
  have c := fun W => keys_calls W k k2
  have ha : ∀ n os, Pt (grow (w.drewN n) os) b o k := fun n os => h.gr ⟨n, os, rfl⟩
  have ga : ∀ n os, Pt (grow (w.drewN n) os) b2 o2 k2 := fun n os => g.gr ⟨n, os, rfl⟩
  have h7 := h.2.2.2.2.2.2.2.1
  have g6 := g.2.2.2.2.2.2.1
  have q3 := fun n os => (ha n os).2.2.2.1
  have q4 := fun n os => (ha n os).2.2.2.2.1
  have q5 := fun n os => (ha n os).2.2.2.2.2.1
  have q9 := fun n os => (ha n os).2.2.2.2.2.2.2.2.2
  have p0 := fun n os => (ga n os).1
  have p1 := fun n os => (ga n os).2.1
  have p2 := fun n os => (ga n os).2.2.1
  have p8 := fun n os => (ga n os).2.2.2.2.2.2.2.2.1
  clear ha ga h g
  have hmix := mixed
  by_cases hlt : k < k2
  · have e0 : kcmp k k2 = -1 := by simp [kcmp, hlt]
    rw [e0] at c
    have hd : decide (k < k2) = true := decide_eq_true hlt
    rw [hd]
    clear e0 hd
    go_enter Yba.func50, Yba.ntmps50
    go_wp2_with fail
    go_quiet_grown (first | (go_at_call 47; refine Calls.grown_of (c _)))
    go_wp2_with fail
    go_ret
    exact ⟨rfl, nq, osq, rfl⟩
  · have hd : decide (k < k2) = false := decide_eq_false hlt
    rw [hd]
    have e0 : kcmp k k2 = 0 ∨ kcmp k k2 = 1 := by
      unfold kcmp
      rw [if_neg hlt]
      split
      · exact .inr rfl
      · exact .inl rfl
    clear hd
    rcases e0 with e0 | e0
    · rw [e0] at c
      clear e0
      go_enter Yba.func50, Yba.ntmps50
      go_wp2_with fail
      go_quiet_grown (first | (go_at_call 47; refine Calls.grown_of (c _)))
      go_wp2_with fail
      go_ret
      exact ⟨rfl, nq, osq, rfl⟩
    · rw [e0] at c
      clear e0
      go_enter Yba.func50, Yba.ntmps50
      go_wp2_with fail
      go_quiet_grown (first | (go_at_call 47; refine Calls.grown_of (c _)))
      go_wp2_with fail
      go_ret
      exact ⟨rfl, nq, osq, rfl⟩

set_option maxRecDepth 100000 in
theorem starts_calls (w : World) (b o b2 o2 k : Nat) (h : Pt w b o k) (g : Pt w b2 o2 k) :
    Calls Yba.prog 52 #[.pointer (some ⟨b, o, none⟩), .pointer (some ⟨b2, o2, none⟩)] w fun e w' => e = .returned (.bool true) ∧ Gr w w' := by
  have c := fun W => keys_calls W k k
  have e0 : kcmp k k = 0 := by simp [kcmp]
  rw [e0] at c
  have ha : ∀ n os, Pt (grow (w.drewN n) os) b o k := fun n os => h.gr ⟨n, os, rfl⟩
  have ga : ∀ n os, Pt (grow (w.drewN n) os) b2 o2 k := fun n os => g.gr ⟨n, os, rfl⟩
  have h6 := h.2.2.2.2.2.2.1
  have g6 := g.2.2.2.2.2.2.1
  have q0 := fun n os => (ha n os).1
  have q1 := fun n os => (ha n os).2.1
  have q2 := fun n os => (ha n os).2.2.1
  have q8 := fun n os => (ha n os).2.2.2.2.2.2.2.2.1
  have p0 := fun n os => (ga n os).1
  have p1 := fun n os => (ga n os).2.1
  have p2 := fun n os => (ga n os).2.2.1
  have p8 := fun n os => (ga n os).2.2.2.2.2.2.2.2.1
  clear ha ga h g e0
  have hmix := mixed
  go_enter Yba.func52, Yba.ntmps52
  go_wp2_with fail
  go_quiet_grown (first | (go_at_call 47; refine Calls.grown_of (c _)))
  go_wp2_with fail
  go_ret
  exact ⟨rfl, nq, osq, rfl⟩

set_option maxRecDepth 100000 in
theorem ends_calls (w : World) (b o b2 o2 k : Nat) (h : Pt w b o k) (g : Pt w b2 o2 k) :
    Calls Yba.prog 53 #[.pointer (some ⟨b, o, none⟩), .pointer (some ⟨b2, o2, none⟩)] w fun e w' => e = .returned (.bool true) ∧ Gr w w' := by
  have c := fun W => keys_calls W k k
  have e0 : kcmp k k = 0 := by simp [kcmp]
  rw [e0] at c
  have ha : ∀ n os, Pt (grow (w.drewN n) os) b o k := fun n os => h.gr ⟨n, os, rfl⟩
  have ga : ∀ n os, Pt (grow (w.drewN n) os) b2 o2 k := fun n os => g.gr ⟨n, os, rfl⟩
  have h7 := h.2.2.2.2.2.2.2.1
  have g7 := g.2.2.2.2.2.2.2.1
  have q3 := fun n os => (ha n os).2.2.2.1
  have q4 := fun n os => (ha n os).2.2.2.2.1
  have q5 := fun n os => (ha n os).2.2.2.2.2.1
  have q9 := fun n os => (ha n os).2.2.2.2.2.2.2.2.2
  have p3 := fun n os => (ga n os).2.2.2.1
  have p4 := fun n os => (ga n os).2.2.2.2.1
  have p5 := fun n os => (ga n os).2.2.2.2.2.1
  have p9 := fun n os => (ga n os).2.2.2.2.2.2.2.2.2
  clear ha ga h g e0
  have hmix := mixed
  go_enter Yba.func53, Yba.ntmps53
  go_wp2_with fail
  go_quiet_grown (first | (go_at_call 47; refine Calls.grown_of (c _)))
  go_wp2_with fail
  go_ret
  exact ⟨rfl, nq, osq, rfl⟩

theorem contains_calls (w : World) (b o b2 o2 k : Nat) (h : Pt w b o k) (g : Pt w b2 o2 k) :
    Calls Yba.prog 45 #[.pointer (some ⟨b, o, none⟩), .pointer (some ⟨b2, o2, none⟩)] w fun e w' => e = .returned (.bool true) ∧ Gr w w' := by
  have c1 := starts_calls w b o b2 o2 k h g
  have c2 := fun W (hg : Gr w W) => ends_calls W b o b2 o2 k (h.gr hg) (g.gr hg)
  clear h g
  go_enter Yba.func45, Yba.ntmps45
  go_wp2_with (go_at_call 52; refine c1.mono ?_; rintro e W1 ⟨rfl, g1⟩)
  go_wp2_with (go_at_call 53; refine (c2 _ g1).mono ?_; rintro e W2 ⟨rfl, g2⟩)
  go_ret
  exact ⟨rfl, g1.trans g2⟩

theorem join_calls (w : World) (b o b2 o2 k : Nat) (h : Pt w b o k) (g : Pt w b2 o2 k) :
    Calls Yba.prog 46 #[.pointer (some ⟨b, o, none⟩), .pointer (some ⟨b2, o2, none⟩)] w fun e w' => e = .returned (.tuple #[]) ∧ Gr w w' := by
  have c1 := starts_calls w b o b2 o2 k h g
  have c2 := fun W (hg : Gr w W) => ends_calls W b o b2 o2 k (h.gr hg) (g.gr hg)
  clear h g
  go_enter Yba.func46, Yba.ntmps46
  go_wp2_with (go_at_call 52; refine c1.mono ?_; rintro e W1 ⟨rfl, g1⟩)
  go_wp2_with (go_at_call 53; refine (c2 _ g1).mono ?_; rintro e W2 ⟨rfl, g2⟩)
  go_end0
  exact ⟨rfl, g1.trans g2⟩

end Go.Proofs.Ybulkbopq
