/-
  The law's model, plain: what each key's place is; and that the sets that take leaves stand for it.
-/
import Derived.Test.YbulkbopqTArr
import Derived.Test.YbulkbopqTSmall
namespace Go.Proofs.Ybulkbopq
open Go.RowKit

/-- One entry more in the model. -/
def mstep (kp : Nat → Nat → Nat) (q : Nat) (G : Nat → Nat → Option Nat) (x : Nat × Nat × Nat) : Nat → Nat → Option Nat := fun j => if j = x.1 then upd kp (G j) x.2.1 (kp q x.2.2) else G j
def modR (q : Nat) (rs : List (Nat × Nat × Nat)) : Nat → Nat → Option Nat := rs.foldl (mstep max q) (fun _ _ => none)
def modW (q : Nat) (ws : List (Nat × Nat × Nat)) : Nat → Nat → Option Nat := ws.foldl (mstep early q) (fun _ _ => none)
def modD (q : Nat) (fo : Bool) (ws : List (Nat × Nat × Nat)) : Nat → Nat → Option Nat := if fo = true then modR q ws else fun _ _ => none
def used (xs : List (Nat × Nat × Nat)) (j : Nat) : Bool := xs.any fun x => x.1 == j

theorem modR_snoc (q : Nat) (rs : List (Nat × Nat × Nat)) (x : Nat × Nat × Nat) : modR q (rs ++ [x]) = mstep max q (modR q rs) x := by simp [modR, List.foldl_append]
theorem modW_snoc (q : Nat) (rs : List (Nat × Nat × Nat)) (x : Nat × Nat × Nat) : modW q (rs ++ [x]) = mstep early q (modW q rs) x := by simp [modW, List.foldl_append]
theorem used_snoc (rs : List (Nat × Nat × Nat)) (x : Nat × Nat × Nat) (j : Nat) : used (rs ++ [x]) j = if j = x.1 then true else used rs j := by
  unfold used
  rw [List.any_append]
  by_cases e : j = x.1
  · simp [e]
  · simp [e, Ne.symm e]

/-- The cells of a model: 768 flags, 768 places. -/
def modF (G : Nat → Nat → Option Nat) (c : Nat) : Value := if c < 768 then .bool (G (c / 256) (c % 256)).isSome else .int .u64 ((G ((c - 768) / 256) ((c - 768) % 256)).getD 0 : Nat)

theorem modF_put (kp : Nat → Nat → Nat) (h0 : ∀ x, kp 0 x = x) (q : Nat) (G : Nat → Nat → Option Nat) (j k s : Nat) (hj : j < 3) (hk : k < 256) (c : Nat) (hc : c < 1536) :
    fupd (fupd (modF G) (j * 256 + k) (.bool true)) (768 + j * 256 + k) (.int .u64 (kp ((G j k).getD 0) (kp q s) : Nat)) c = modF (mstep kp q G (j, k, s)) c := by
  have e1 : (j * 256 + k) / 256 = j := by omega
  have e2 : (j * 256 + k) % 256 = k := by omega
  by_cases h1 : c = 768 + j * 256 + k
  · subst h1
    rw [fupd_same]
    unfold modF
    rw [if_neg (by omega), show 768 + j * 256 + k - 768 = j * 256 + k by omega, e1, e2]
    unfold mstep upd
    simp only [if_true]
    cases G j k with
    | none => simp [h0]
    | some o => simp
  · rw [fupd_other _ _ h1]
    by_cases h2 : c = j * 256 + k
    · subst h2
      rw [fupd_same]
      unfold modF
      rw [if_pos (by omega), e1, e2]
      unfold mstep upd
      simp
    · rw [fupd_other _ _ h2]
      unfold modF
      by_cases hlt : c < 768
      · rw [if_pos hlt, if_pos hlt]
        have : ¬ (c / 256 = j ∧ c % 256 = k) := by omega
        unfold mstep upd
        by_cases e : c / 256 = j
        · have e' : ¬ c % 256 = k := fun e3 => this ⟨e, e3⟩
          simp [e, e']
        · simp [e]
      · rw [if_neg hlt, if_neg hlt]
        have : ¬ ((c - 768) / 256 = j ∧ (c - 768) % 256 = k) := by omega
        unfold mstep upd
        by_cases e : (c - 768) / 256 = j
        · have e' : ¬ (c - 768) % 256 = k := fun e3 => this ⟨e, e3⟩
          simp [e, e']
        · simp [e]

theorem modF_zero (c : Nat) : modF (fun _ _ => none) c = if c < 768 then .bool false else .int .u64 0 := by
  unfold modF
  split <;> rfl

theorem mod_of_arr {w : World} {b : Nat} {G : Nat → Nat → Option Nat} (h : Arr w b 104 1536 (modF G)) {j : Nat} (hj : j < 3) : Mod w b (j * 256) b (768 + j * 256) (G j) := fun k hk => by
  have e1 : (j * 256 + k) / 256 = j := by omega
  have e2 : (j * 256 + k) % 256 = k := by omega
  refine ⟨?_, ?_⟩
  · rw [h.cell (by omega)]
    unfold modF
    rw [if_pos (by omega), e1, e2]
  · rw [h.cell (by omega)]
    unfold modF
    rw [if_neg (by omega), show 768 + j * 256 + k - 768 = j * 256 + k by omega, e1, e2]

/-- The sets stand for the model. -/
def RepAll (σ : Sg) (GR GD GW : Nat → Nat → Option Nat) : Prop := (∀ j, j < 3 → Rep (σ.L j) (GR j)) ∧ (∀ j, j < 3 → Rep (σ.L (3 + j)) (GD j)) ∧ ∀ j, j < 3 → Rep (σ.L (6 + j)) (GW j)

theorem RepAll.stepR {σ : Sg} {GR GD GW : Nat → Nat → Option Nat} (h : RepAll σ GR GD GW) (q : Nat) (x : Nat × Nat × Nat) (hj : x.1 < 3) (hk : x.2.1 < 256) : RepAll (stepR q σ x) (mstep max q GR x) GD GW := by
  refine ⟨fun j hj' => ?_, fun j hj' => ?_, fun j hj' => ?_⟩
  · show Rep (lupd σ.L x.1 _ j) (mstep max q GR x j)
    unfold lupd mstep
    by_cases e : j = x.1
    · subst e
      rw [if_pos rfl, if_pos rfl]
      exact (h.1 _ hj).ins _ _ _ hk
    · rw [if_neg e, if_neg e]
      exact h.1 j hj'
  · show Rep (lupd σ.L x.1 _ (3 + j)) (GD j)
    unfold lupd
    rw [if_neg (by omega)]
    exact h.2.1 j hj'
  · show Rep (lupd σ.L x.1 _ (6 + j)) (GW j)
    unfold lupd
    rw [if_neg (by omega)]
    exact h.2.2 j hj'
theorem RepAll.stepW {σ : Sg} {GR GD GW : Nat → Nat → Option Nat} (h : RepAll σ GR GD GW) (q : Nat) (fo : Bool) (x : Nat × Nat × Nat) (hj : x.1 < 3) (hk : x.2.1 < 256) : RepAll (stepW q fo σ x) GR (if fo = true then mstep max q GD x else GD) (mstep early q GW x) := by
  have hd : ∀ a, a ≠ 3 + x.1 → doomW q fo σ.L x a = σ.L a := fun a ha => by
    unfold doomW
    split
    · unfold lupd
      rw [if_neg ha]
    · rfl
  refine ⟨fun j hj' => ?_, fun j hj' => ?_, fun j hj' => ?_⟩
  · show Rep (lupd _ (6 + x.1) _ j) (GR j)
    unfold lupd
    rw [if_neg (by omega), hd j (by omega)]
    exact h.1 j hj'
  · show Rep (lupd _ (6 + x.1) _ (3 + j)) _
    unfold lupd
    rw [if_neg (by omega)]
    unfold doomW
    cases fo with
    | false => exact h.2.1 j hj'
    | true =>
      simp only [if_true]
      unfold lupd mstep
      by_cases e : j = x.1
      · subst e
        rw [if_pos rfl, if_pos rfl]
        exact (h.2.1 _ hj).ins _ _ _ hk
      · rw [if_neg (by omega), if_neg e]
        exact h.2.1 j hj'
  · show Rep (lupd _ (6 + x.1) _ (6 + j)) (mstep early q GW x j)
    unfold lupd mstep
    by_cases e : j = x.1
    · subst e
      rw [if_pos rfl, if_pos rfl, hd (6 + x.1) (by omega)]
      exact (h.2.2 _ hj).ins _ _ _ hk
    · rw [if_neg (by omega), if_neg e, hd (6 + j) (by omega)]
      exact h.2.2 j hj'

/-- Nothing there yet but the marks' own sets, all empty. -/
def σ0 : Sg := { lv := fun a => decide (a < 6), L := fun _ => [], lr := fun _ => 0 }
theorem good0 : Good σ0 := ⟨fun _ => Ord.nil, fun _ _ => rfl, fun _ ha => decide_eq_true ha⟩

def Ok (xs : List (Nat × Nat × Nat)) : Prop := ∀ x ∈ xs, x.1 < 3 ∧ x.2.1 < 256

theorem reads_all (q : Nat) : ∀ (rs : List (Nat × Nat × Nat)) (σ : Sg) (GR GD GW : Nat → Nat → Option Nat), Ok rs → RepAll σ GR GD GW → RepAll (rs.foldl (stepR q) σ) (rs.foldl (mstep max q) GR) GD GW
  | [], _, _, _, _, _, h => h
  | x :: rs, _, _, _, _, ho, h => reads_all q rs _ _ _ _ (fun y hy => ho y (.tail _ hy)) (h.stepR q x (ho x (.head _)).1 (ho x (.head _)).2)
theorem writes_all (q : Nat) (fo : Bool) : ∀ (ws : List (Nat × Nat × Nat)) (σ : Sg) (GR GD GW : Nat → Nat → Option Nat), Ok ws → RepAll σ GR GD GW →
    RepAll (ws.foldl (stepW q fo) σ) GR (if fo = true then ws.foldl (mstep max q) GD else GD) (ws.foldl (mstep early q) GW)
  | [], _, _, _, _, _, h => by cases fo <;> exact h
  | x :: ws, σ, GR, GD, GW, ho, h => by
    have := writes_all q fo ws _ _ _ _ (fun y hy => ho y (.tail _ hy)) (h.stepW q fo x (ho x (.head _)).1 (ho x (.head _)).2)
    cases fo <;> exact this

theorem end_all (q : Nat) (fo : Bool) (rs ws : List (Nat × Nat × Nat)) (hr : Ok rs) (hw : Ok ws) : RepAll (ws.foldl (stepW q fo) (rs.foldl (stepR q) σ0)) (modR q rs) (modD q fo ws) (modW q ws) := by
  have h0 : RepAll σ0 (fun _ _ => none) (fun _ _ => none) (fun _ _ => none) := ⟨fun _ _ => Rep.nil, fun _ _ => Rep.nil, fun _ _ => Rep.nil⟩
  exact writes_all q fo ws _ _ _ _ hw (reads_all q rs σ0 _ _ _ hr h0)

theorem reads_lv (q : Nat) : ∀ (rs : List (Nat × Nat × Nat)) (σ : Sg) (j : Nat), (rs.foldl (stepR q) σ).lv (6 + j) = (σ.lv (6 + j) || used rs j) ∧ (rs.foldl (stepR q) σ).lr j = if used rs j = true then q else σ.lr j
  | [], σ, j => by simp [used]
  | x :: rs, σ, j => by
    have h := reads_lv q rs (stepR q σ x) j
    rw [List.foldl_cons]
    rw [h.1, h.2]
    unfold stepR lvput used
    by_cases e : j = x.1
    · subst e; simp
    · have e' : (x.1 == j) = false := by simp; exact fun h => e h.symm
      refine ⟨by simp [e, e'], ?_⟩
      rw [List.any_cons, e', Bool.false_or]
      simp [e]
theorem writes_lv (q : Nat) (fo : Bool) : ∀ (ws : List (Nat × Nat × Nat)) (σ : Sg) (j : Nat), (ws.foldl (stepW q fo) σ).lv (6 + j) = (σ.lv (6 + j) || used ws j) ∧ (ws.foldl (stepW q fo) σ).lr j = σ.lr j
  | [], σ, j => by simp [used]
  | x :: ws, σ, j => by
    have h := writes_lv q fo ws (stepW q fo σ x) j
    rw [List.foldl_cons]
    rw [h.1, h.2]
    unfold stepW lvput used
    by_cases e : j = x.1
    · subst e; simp
    · have e' : (x.1 == j) = false := by simp; exact fun h => e h.symm
      simp [e, e']
theorem end_lv (q : Nat) (fo : Bool) (rs ws : List (Nat × Nat × Nat)) (j : Nat) : (ws.foldl (stepW q fo) (rs.foldl (stepR q) σ0)).lv (6 + j) = used (rs ++ ws) j ∧ (ws.foldl (stepW q fo) (rs.foldl (stepR q) σ0)).lr j = if used rs j = true then q else 0 := by
  rw [(writes_lv q fo ws _ j).1, (writes_lv q fo ws _ j).2, (reads_lv q rs σ0 j).1, (reads_lv q rs σ0 j).2]
  have h6 : σ0.lv (6 + j) = false := by
    show decide (6 + j < 6) = false
    simp
  rw [h6]
  refine ⟨?_, rfl⟩
  unfold used
  rw [List.any_append, Bool.false_or]

end Go.Proofs.Ybulkbopq
