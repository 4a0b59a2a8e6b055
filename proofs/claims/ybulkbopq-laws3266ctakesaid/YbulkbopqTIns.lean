/-
  One key put into a set: the plain function, and what it does to the row.
-/
import Derived.Test.YbulkbopqTOwn
namespace Go.Proofs.Ybulkbopq
open Go.RowKit Go.Sort

theorem run_copy_own {w : World} {g n cap : Nat} {L : List Value} (h : w.ownsRow 0 138 11 (.slice (some ⟨g, 0, none⟩) n cap) n L) (hL1 : ∀ u ∈ L, u.oneCell' = true) (dp sp : Option Addr) (dLen dCap sLen sCap m o so : Nat) (cs : List Value) (ty : TypeId)
    (hm : Nat.min sLen dLen = m) (hlen : cs.length = m * 11) (hpos : 0 < m → dp = some ⟨g, o, none⟩ ∧ sp = some ⟨g, so, none⟩) (hcs : ∀ j, j < cs.length → cs[j]? = L[so + j]?) (ho : o + m * 11 ≤ n * 11) (hso : so + m * 11 ≤ n * 11) :
    (Builtin.copy_ #[91, 91] ty #[.slice dp dLen dCap, .slice sp sLen sCap]).run Yba.prog w = .ok (.int .i64 (m : Nat)) (w.setCells g o cs) := by
  obtain ⟨i, hi, hz, hs, hby⟩ := info138
  by_cases h0 : m = 0
  · subst h0
    obtain rfl : cs = [] := List.eq_nil_of_length_eq_zero (by simpa using hlen)
    have hl : ∀ (x : Addr), (loadCells x 0).run Yba.prog w = .ok #[] w := fun x => by simpa using run_loadCells_list (P := Yba.prog) w x [] (by simp)
    cases dp <;> cases sp <;> simp [Builtin.copy_, run_underlying Yba.underlying91, Builtin.lenOf, Builtin.firstCells, sizeOf, typeInfo, hi, hm, storeCells, hl, goInt, World.setCells]
  · obtain ⟨rfl, rfl⟩ := hpos (by omega)
    have hsrc : ∀ j v, cs[j]? = some v → w.cell? ((⟨g, so, none⟩ : Addr).add j) = some v := fun j v hj => by
      have hlt := (List.getElem?_eq_some_iff.1 hj).1
      have hadd : (⟨g, so, none⟩ : Addr).add j = ⟨g, so + j, none⟩ := by unfold Addr.add; split <;> simp_all
      rw [hadd, h.cellAt (so + j) (by omega), ← hcs j hlt, hj]
    have hl := run_loadCells_list (P := Yba.prog) w ⟨g, so, none⟩ cs hsrc
    rw [hlen] at hl
    have hst := run_storeCells_cells (P := Yba.prog) g o cs 0 w
      (fun j hj => by rw [Nat.add_zero, h.cellAt (o + j) (by omega), List.getElem?_eq_getElem (by rw [h.1]; omega)]; rfl)
      (fun j hj => h.frozenAt _)
      (fun v hv => by
        obtain ⟨j, hj⟩ := List.getElem?_of_mem hv
        have hlt := (List.getElem?_eq_some_iff.1 hj).1
        rw [hcs j hlt] at hj
        exact hL1 v (List.mem_of_getElem? hj))
    simp only [Nat.add_zero] at hst
    simp [Builtin.copy_, run_underlying Yba.underlying91, Builtin.lenOf, Builtin.firstCells, sizeOf, typeInfo, hi, hs, hm, hl, hst, goInt]

section
variable {P : Program} {w w' : World} {ops : Array Oper} {rest : List Oper} {o : Oper} {a : Act} {Q : Exit → Act → World → Prop} {K : Act → World → Prop} {E : Prop}

theorem wp_copy_eq (s x : Operand) (t : TypeId) (ho : o.op = .call { callee := .builtin .copy, args := #[s, x], argTypes := #[t, t] }) (u y v' : Value) (hs : a.eval s = u) (hx : a.eval x = y)
    (hr : (Builtin.copy_ #[t, t] o.type #[u, y]).run P w = .ok v' w') (h : K (a.put o.dst v') w') : o.wp P a w K Q := by
  unfold Oper.wp execOp
  simp only [ho, resolve, invoke, builtin, Sem.run_bind, Sem.run_pure, Result.andThen_ok, List.map_toArray, List.map_cons, List.map_nil, hs, hx, hr]
  exact h

theorem step_copy_eq (hgd : o.guard = none) (s x : Operand) (t : TypeId) (ho : o.op = .call { callee := .builtin .copy, args := #[s, x], argTypes := #[t, t] }) (u y v' : Value) (hs : a.eval s = u) (hx : a.eval x = y)
    (hr : (Builtin.copy_ #[t, t] o.type #[u, y]).run P w = .ok v' w') (h : K (a.put o.dst v') w') :
    if Region.wanted o (yielded ops a.tmps) = true then Oper.wp P o a w K Q else E := by
  have hw : Region.wanted o (yielded ops a.tmps) = true := by simp [Region.wanted, hgd]
  rw [if_pos hw]
  exact wp_copy_eq s x t ho u y v' hs hx hr h

theorem wp_append_eq (s x : Operand) (t : TypeId) (ho : o.op = .call { callee := .builtin .append, args := #[s, x], argTypes := #[t, t] }) (u y v' : Value) (hs : a.eval s = u) (hx : a.eval x = y)
    (hr : (Builtin.append_ #[t, t] o.type #[u, y]).run P w = .ok v' w') (h : K (a.put o.dst v') w') : o.wp P a w K Q := by
  unfold Oper.wp execOp
  simp only [ho, resolve, invoke, builtin, Sem.run_bind, Sem.run_pure, Result.andThen_ok, List.map_toArray, List.map_cons, List.map_nil, hs, hx, hr]
  exact h

theorem wpList_append_eq (hgd : o.guard = none) (s x : Operand) (t : TypeId) (ho : o.op = .call { callee := .builtin .append, args := #[s, x], argTypes := #[t, t] }) (u y v' : Value) (hs : a.eval s = u) (hx : a.eval x = y)
    (hr : (Builtin.append_ #[t, t] o.type #[u, y]).run P w = .ok v' w') (h : wpList P ops Q rest (a.put o.dst v') w') : wpList P ops Q (o :: rest) a w :=
  wpList_plain hgd fun _ hK => wp_append_eq s x t ho u y v' hs hx hr (hK _ _ h)

theorem step_append_eq (hgd : o.guard = none) (s x : Operand) (t : TypeId) (ho : o.op = .call { callee := .builtin .append, args := #[s, x], argTypes := #[t, t] }) (u y v' : Value) (hs : a.eval s = u) (hx : a.eval x = y)
    (hr : (Builtin.append_ #[t, t] o.type #[u, y]).run P w = .ok v' w') (h : K (a.put o.dst v') w') :
    if Region.wanted o (yielded ops a.tmps) = true then Oper.wp P o a w K Q else E := by
  have hw : Region.wanted o (yielded ops a.tmps) = true := by simp [Region.wanted, hgd]
  rw [if_pos hw]
  exact wp_append_eq s x t ho u y v' hs hx hr h
end

/-- The key k, with place s, put into the set xs. -/
def ins (kp : Nat → Nat → Nat) (xs : List (Nat × Nat)) (k s : Nat) : List (Nat × Nat) :=
  if below xs (k + 1) = below xs k then xs.take (below xs k) ++ (k, s) :: xs.drop (below xs k) else xs.set (below xs k) (k, kp (xs.getD (below xs k) (0, 0)).2 s)

/-- The key stands in the set just where the two counts differ; then at that place. -/
theorem below_has {xs : List (Nat × Nat)} (ho : Ord xs) (k : Nat) :
    (below xs (k + 1) = below xs k ∧ ∀ p ∈ xs, p.1 ≠ k) ∨ (below xs (k + 1) = below xs k + 1 ∧ ∃ s, xs[below xs k]? = some (k, s)) := by
  by_cases h : ∃ p ∈ xs, p.1 = k
  · right
    obtain ⟨p, hp, rfl⟩ := h
    obtain ⟨i, hi⟩ := List.getElem?_of_mem hp
    have e1 := at_below ho hi
    have hlt : i < xs.length := (List.getElem?_eq_some_iff.1 hi).1
    have e2 : below xs (p.1 + 1) = i + 1 := by
      have h1 := (lt_below ho (p.1 + 1) i p hi).2 (by omega)
      have h2 : ¬ i + 1 < below xs (p.1 + 1) := fun h3 => by
        have hb := below_le xs (p.1 + 1)
        obtain ⟨q, hq⟩ : ∃ q, xs[i + 1]? = some q := ⟨_, List.getElem?_eq_getElem (by omega)⟩
        have h4 := (lt_below ho (p.1 + 1) (i + 1) q hq).1 h3
        have h5 := List.pairwise_iff_getElem.1 ho.1 i (i + 1) (by omega) (by omega) (by omega)
        rw [List.getElem?_eq_getElem (by omega), Option.some.injEq] at hq
        rw [List.getElem?_eq_getElem hlt, Option.some.injEq] at hi
        rw [hq, hi] at h5
        omega
      omega
    exact ⟨by rw [e1, e2], p.2, by rw [e1, hi]⟩
  · left
    have hne : ∀ p ∈ xs, p.1 ≠ k := fun p hp e => h ⟨p, hp, e⟩
    refine ⟨?_, hne⟩
    unfold below
    apply List.countP_congr
    intro a ha
    have := hne a ha
    simp
    omega

theorem row_absent (A B : List (Nat × Nat)) (k s : Nat) : splice (splice (flat (A ++ B) ++ pc 0 0) ((A.length + 1) * 11) (flat B)) (A.length * 11) (pc k s) = flat (A ++ (k, s) :: B) := by
  have hA := flat_len A
  have hB := flat_len B
  have hAB := flat_len (A ++ B)
  have hz := pc_len 0 0
  have hp := pc_len k s
  rw [List.length_append] at hAB
  have hL0 : (flat (A ++ B) ++ pc 0 0).length = A.length * 11 + B.length * 11 + 11 := by rw [List.length_append, hAB, hz]; omega
  have hL1 : (splice (flat (A ++ B) ++ pc 0 0) ((A.length + 1) * 11) (flat B)).length = A.length * 11 + B.length * 11 + 11 := by rw [length_splice _ _ _ (by omega), hL0]
  apply List.ext_getElem?
  intro j
  have hR : flat (A ++ (k, s) :: B) = flat A ++ (pc k s ++ flat B) := by rw [flat_append, flat_cons]
  rw [splice_get _ _ _ (by omega), splice_get _ _ _ (by omega), hR, List.getElem?_append (l₁ := flat A), List.getElem?_append (l₁ := pc k s), hp]
  by_cases h1 : j < A.length * 11
  · rw [if_neg (by omega), if_neg (by omega), if_pos (by omega), flat_append, List.append_assoc, List.getElem?_append_left (by omega)]
  · by_cases h2 : j < A.length * 11 + 11
    · rw [if_pos ⟨by omega, by omega⟩, if_neg (by omega), if_pos (by omega), hA]
    · by_cases h3 : j < A.length * 11 + 11 + B.length * 11
      · rw [if_neg (by omega), if_pos ⟨by omega, by omega⟩, if_neg (by omega), if_neg (by omega), hA]
        congr 1
        omega
      · rw [if_neg (by omega), if_neg (by omega), if_neg (by omega), if_neg (by omega), List.getElem?_eq_none (by omega), List.getElem?_eq_none (by omega)]

theorem flat_set (xs : List (Nat × Nat)) (i k s : Nat) (hi : i < xs.length) : splice (flat xs) (i * 11) (pc k s) = flat (xs.set i (k, s)) := by
  have h0 := flat_len xs
  have hp := pc_len k s
  apply List.ext_getElem?
  intro j
  rw [splice_get _ _ _ (by omega), hp]
  by_cases hj : j < xs.length * 11
  · have hq : j / 11 < xs.length := by omega
    have hj2 : j = j / 11 * 11 + j % 11 := by omega
    by_cases e : j / 11 = i
    · rw [if_pos ⟨by omega, by omega⟩]
      conv => rhs; rw [hj2]
      rw [flat_get _ (j / 11) (k, s) (j % 11) (by rw [List.getElem?_set, if_pos e.symm, if_pos (by omega)]) (by omega)]
      congr 1
      omega
    · rw [if_neg (by omega)]
      obtain ⟨p, hpx⟩ : ∃ p, xs[j / 11]? = some p := ⟨_, List.getElem?_eq_getElem hq⟩
      conv => lhs; rw [hj2]
      conv => rhs; rw [hj2]
      rw [flat_get _ (j / 11) p (j % 11) hpx (by omega), flat_get _ (j / 11) p (j % 11) (by rw [List.getElem?_set, if_neg (Ne.symm e)]; exact hpx) (by omega)]
  · rw [if_neg (by omega), List.getElem?_eq_none (by omega), List.getElem?_eq_none (by rw [flat_len, List.length_set]; omega)]

theorem row_present (xs : List (Nat × Nat)) (i k s : Nat) (hi : i < xs.length) : splice (splice (flat xs) ((i + 1) * 11) (flat (xs.drop (i + 1)))) (i * 11) (pc k s) = flat (xs.set i (k, s)) := by
  rw [← flat_set xs i k s hi]
  congr 1
  have h0 := flat_len xs
  have h1 := flat_len (xs.drop (i + 1))
  rw [List.length_drop] at h1
  have h2 : flat xs = flat (xs.take (i + 1)) ++ flat (xs.drop (i + 1)) := by rw [← flat_append, List.take_append_drop]
  have h3 := flat_len (xs.take (i + 1))
  rw [List.length_take, Nat.min_eq_left (by omega)] at h3
  apply List.ext_getElem?
  intro j
  rw [splice_get _ _ _ (by omega)]
  split
  · rename_i hj
    rw [h2, List.getElem?_append_right (by omega), h3]
  · rfl

end Go.Proofs.Ybulkbopq
