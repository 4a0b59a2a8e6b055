/-
  What take reads, and the plain steps that it makes.
-/
import Derived.Test.YbulkbopqTOpen
import Derived.Test.YbulkbopqTPlain
namespace Go.Proofs.Ybulkbopq
open Go.RowKit Go.Sort

/-- The sets that are there, what they hold, and the places of the last reads. -/
structure Sg where
  lv : Nat → Bool
  L : Nat → List (Nat × Nat)
  lr : Nat → Nat

def stepR (q : Nat) (σ : Sg) (x : Nat × Nat × Nat) : Sg :=
  { lv := lvput σ.lv (6 + x.1), L := lupd σ.L x.1 (ins max (σ.L x.1) x.2.1 (max q x.2.2)), lr := fun i => if i = x.1 then q else σ.lr i }
def doomW (q : Nat) (fo : Bool) (L : Nat → List (Nat × Nat)) (x : Nat × Nat × Nat) : Nat → List (Nat × Nat) := if fo = true then lupd L (3 + x.1) (ins max (L (3 + x.1)) x.2.1 (max q x.2.2)) else L
def stepW (q : Nat) (fo : Bool) (σ : Sg) (x : Nat × Nat × Nat) : Sg :=
  { lv := lvput σ.lv (6 + x.1), L := lupd (doomW q fo σ.L x) (6 + x.1) (ins early (doomW q fo σ.L x (6 + x.1)) x.2.1 (early q x.2.2)), lr := σ.lr }

/-- In order: the lists ascend; what is not there is empty; the first six are there. -/
structure Good (σ : Sg) : Prop where
  ord : ∀ a, Ord (σ.L a)
  emp : ∀ a, σ.lv a = false → σ.L a = []
  low : ∀ a, a < 6 → σ.lv a = true

theorem Ord.ins {xs : List (Nat × Nat)} (h : Ord xs) (kp : Nat → Nat → Nat) (k s : Nat) (hk : k < 256) : Ord (ins kp xs k s) := by
  have hrep : Rep xs (fun k' => (xs.find? (fun p => p.1 == k')).map (·.2)) := by
    refine ⟨h, fun k' s' => ?_⟩
    constructor
    · intro hm
      obtain ⟨i, hi⟩ := List.getElem?_of_mem hm
      cases hf : xs.find? (fun p => p.1 == k') with
      | none =>
        rw [List.find?_eq_none] at hf
        exact absurd (by simp) (hf _ hm)
      | some p =>
        have hp := List.find?_some hf
        have hpm := List.mem_of_find?_eq_some hf
        obtain ⟨i', hi'⟩ := List.getElem?_of_mem hpm
        have e1 := at_below h hi
        have e2 := at_below h hi'
        have e3 : p.1 = k' := by simpa using hp
        rw [e3] at e2
        have : i = i' := by rw [← e1, ← e2]
        rw [this, hi'] at hi
        simp only [Option.some.injEq] at hi
        show (xs.find? (fun p => p.1 == k')).map (·.2) = some s'
        rw [hf, hi]
        rfl
    · intro hm
      simp only [Option.map_eq_some_iff] at hm
      obtain ⟨p, hp, rfl⟩ := hm
      have e3 : p.1 = k' := by simpa using List.find?_some hp
      have := List.mem_of_find?_eq_some hp
      rw [← e3]
      exact this
  exact (hrep.ins kp k s hk).1

theorem Good.stepR {σ : Sg} (h : Good σ) (q : Nat) {x : Nat × Nat × Nat} (hj : x.1 < 3) (hk : x.2.1 < 256) : Good (stepR q σ x) := by
  refine ⟨fun a => ?_, fun a ha => ?_, fun a ha => ?_⟩
  · show Ord (lupd σ.L x.1 _ a)
    unfold lupd
    split
    · exact (h.ord _).ins _ _ _ hk
    · exact h.ord a
  · have ha' : lvput σ.lv (6 + x.1) a = false := ha
    unfold lvput at ha'
    split at ha'
    · cases ha'
    · show lupd σ.L x.1 _ a = []
      unfold lupd
      rw [if_neg (fun e => by rw [e, h.low x.1 (by omega)] at ha'; cases ha')]
      exact h.emp a ha'
  · show lvput σ.lv (6 + x.1) a = true
    unfold lvput
    rw [if_neg (by omega)]
    exact h.low a ha
theorem Good.stepW {σ : Sg} (h : Good σ) (q : Nat) (fo : Bool) {x : Nat × Nat × Nat} (hj : x.1 < 3) (hk : x.2.1 < 256) : Good (stepW q fo σ x) := by
  have hd : ∀ a, Ord (doomW q fo σ.L x a) := fun a => by
    unfold doomW
    split
    · unfold lupd
      split
      · exact (h.ord _).ins _ _ _ hk
      · exact h.ord a
    · exact h.ord a
  refine ⟨fun a => ?_, fun a ha => ?_, fun a ha => ?_⟩
  · show Ord (lupd _ (6 + x.1) _ a)
    unfold lupd
    split
    · exact (hd _).ins _ _ _ hk
    · exact hd a
  · have ha' : lvput σ.lv (6 + x.1) a = false := ha
    unfold lvput at ha'
    split at ha'
    · cases ha'
    · rename_i hne
      show lupd _ (6 + x.1) _ a = []
      unfold lupd
      rw [if_neg hne]
      unfold doomW
      split
      · unfold lupd
        rw [if_neg (fun e => by rw [e, h.low (3 + x.1) (by omega)] at ha'; cases ha')]
        exact h.emp a ha'
      · exact h.emp a ha'
  · show lvput σ.lv (6 + x.1) a = true
    unfold lvput
    rw [if_neg (by omega)]
    exact h.low a ha

def c3 (lv : Nat → Bool) : Nat := (if lv 6 = true then 1 else 0) + (if lv 7 = true then 1 else 0) + (if lv 8 = true then 1 else 0)
theorem c3_put {lv : Nat → Bool} {j : Nat} (hj : j < 3) (h : lv (6 + j) = false) : c3 (lvput lv (6 + j)) = c3 lv + 1 := by
  unfold c3 lvput
  have : j = 0 ∨ j = 1 ∨ j = 2 := by omega
  rcases this with rfl | rfl | rfl <;> simp_all <;> omega
theorem lvput_self {lv : Nat → Bool} {a : Nat} (h : lv a = true) : lvput lv a = lv := by
  funext b
  unfold lvput
  split
  · rename_i e; rw [e, h]
  · rfl
theorem lupd_self {L : Nat → List (Nat × Nat)} {a : Nat} {xs : List (Nat × Nat)} (h : L a = xs) : lupd L a xs = L := by
  funext b
  unfold lupd
  split
  · rename_i e; rw [e, h]
  · rfl

/-- A block that take leaves alone. -/
def Fix (w0 : World) (M : Nat → Nat) (mE x : Nat) : Prop := x < w0.heap.size ∧ x ≠ mE ∧ ∀ j, j < 3 → x ≠ M j

/-- The ranges read or written: a row of three cells each. -/
def Rows (w0 : World) (T M : Nat → Nat) (mE : Nat) (v : Value) (rs : List (Nat × Nat × Nat)) : Prop :=
  ∃ (a : Option Addr) (cap : Nat), v = .slice a rs.length cap ∧ ∀ i j k s, rs[i]? = some (j, k, s) → j < 3 ∧ k < 256 ∧ ∃ g rb rc, a = some ⟨g, 0, none⟩ ∧ Fix w0 M mE g ∧ Fix w0 M mE rb ∧
    w0.cell? ⟨g, i * 3, none⟩ = some (.pointer (some ⟨T j, 0, none⟩)) ∧ w0.cell? ⟨g, i * 3 + 1, none⟩ = some (.pointer none) ∧ w0.cell? ⟨g, i * 3 + 2, none⟩ = some (.slice (some ⟨rb, 0, none⟩) 1 rc) ∧ El w0 rb k s

structure Env (w0 : World) (T M : Nat → Nat) (mE rB mR eB cB q : Nat) (fo : Bool) (rs ws : List (Nat × Nat × Nat)) (vr vw : Value) : Prop where
  tabs : Tabs w0 T
  tfix : ∀ j, j < 3 → Fix w0 M mE (T j)
  rsp : w0.cell? ⟨rB, 6, none⟩ = some (.map (some mR))
  rfix : Fix w0 M mE rB
  mapR : MapK w0 T mR (fun j => some (.pointer (some ⟨M j, 0, none⟩))) 3
  mfix : Fix w0 M mE mR
  esp : w0.cell? ⟨eB, 2, none⟩ = some (.map (some mE))
  efix : Fix w0 M mE eB
  c1 : w0.cell? ⟨cB, 1, none⟩ = some (.int .u64 (q : Nat))
  c4 : w0.cell? ⟨cB, 4, none⟩ = some vr
  c5 : w0.cell? ⟨cB, 5, none⟩ = some vw
  c11 : w0.cell? ⟨cB, 11, none⟩ = some (.bool fo)
  cfix : Fix w0 M mE cB
  rowR : Rows w0 T M mE vr rs
  rowW : Rows w0 T M mE vw ws

/-- take's state, at σ. -/
def TkS (w0 W : World) (T M : Nat → Nat) (mE : Nat) (σ : Sg) : Prop := ∃ S V, Tk w0 W T M S mE σ.lv σ.L V σ.lr (c3 σ.lv)

theorem Tk.cellFix {w0 W : World} {T M S : Nat → Nat} {mE : Nat} {lv : Nat → Bool} {L : Nat → List (Nat × Nat)} {V : Nat → Value} {lr : Nat → Nat} {cnt : Nat} (h : Tk w0 W T M S mE lv L V lr cnt) {b o : Nat} {v : Value} (hf : Fix w0 M mE b) (hc : w0.cell? ⟨b, o, none⟩ = some v) : W.cell? ⟨b, o, none⟩ = some v := by
  rw [← hc]
  simp only [World.cell?, h.fix hf.1 hf.2.1 hf.2.2]
theorem Tk.elFix {w0 W : World} {T M S : Nat → Nat} {mE : Nat} {lv : Nat → Bool} {L : Nat → List (Nat × Nat)} {V : Nat → Value} {lr : Nat → Nat} {cnt : Nat} (h : Tk w0 W T M S mE lv L V lr cnt) {rb k s : Nat} (hf : Fix w0 M mE rb) (hc : El w0 rb k s) : El W rb k s :=
  ⟨hc.1.of_cells (h.fix hf.1 hf.2.1 hf.2.2), h.cellFix hf hc.2⟩
theorem Tk.tabs {w0 W : World} {T M S : Nat → Nat} {mE : Nat} {lv : Nat → Bool} {L : Nat → List (Nat × Nat)} {V : Nat → Value} {lr : Nat → Nat} {cnt : Nat} (h : Tk w0 W T M S mE lv L V lr cnt) (ht : Tabs w0 T) (hf : ∀ j, j < 3 → Fix w0 M mE (T j)) : Tabs W T :=
  ⟨ht.1, fun j hj => by
    obtain ⟨c, hc⟩ := ht.2 j hj
    exact ⟨c, by rw [h.fix (hf j hj).1 (hf j hj).2.1 (hf j hj).2.2]; exact hc⟩⟩

end Go.Proofs.Ybulkbopq
