/-
  hold.limit, slices.Delete by their contracts.
-/
import Derived.Test.YbulkbowqArr
import Derived.Deep.RegionHeld3
import Derived.Deep.RegionLaw
import Derived.Deep.QuietTactic
import Derived.BigQuiet
import Derived.BigRegion
import Derived.ArgAppend
namespace Go.Proofs.Ybulkbowq
open Go.RowKit

def I32 (x : Int) : Prop := -2147483648 ≤ x ∧ x ≤ 2147483647

set_option maxRecDepth 100000 in
set_option maxHeartbeats 400000 in
theorem limit_calls (w : World) (H bB n : Nat) (own reach : Int) (bt : Nat → Int) (ho : I32 own) (hr : I32 reach) (hb : ∀ i, I32 (bt i))
    (c1 : w.cell? ⟨H, 1, none⟩ = some (.int .i64 reach)) (c3 : w.cell? ⟨H, 3, none⟩ = some (.int .i64 own)) (c4 : w.cell? ⟨H, 4, none⟩ = some (.slice (some ⟨bB, 0, none⟩) n n))
    (hB : Arr w bB 3 n (fun i => .int .i64 (bt i))) (q : Nat) (hq : q < n) (hn : n ≤ 8) :
    Calls Yba.prog 5 #[.pointer (some ⟨H, 0, none⟩), .int .i64 ((q : Int) + 1)] w fun e w' => e = .returned (.int .i64 (max own (bt q) + reach)) ∧ ∃ d, w' = w.drewN d := by
  have g := hB.cell hq
  have hq' : (q : Int) < (n : Int) := by omega
  have hn' : (n : Int) ≤ 8 := by omega
  have hbq := hb q
  unfold I32 at ho hr hbq
  clear hb hB
  go_enter Yba.func5, Yba.ntmps5
  go_wp2_with fail
  go_quiet (fail)
  go_wp2_with fail
  · go_ret
    refine ⟨?_, nq, rfl⟩
    have e : max own (bt q) = bt q := by omega
    rw [e]
    rfl
  · go_ret
    refine ⟨?_, nq, rfl⟩
    have e : max own (bt q) = own := by omega
    rw [e]
    rfl

/-- g with the list vs laid over it from o on. -/
def ov (g : Nat → Value) (o : Nat) (vs : List Value) (j : Nat) : Value := if o ≤ j then (vs[j - o]?).getD (g j) else g j

theorem Arr.setCells {b n : Nat} {t : TypeId} : ∀ (vs : List Value) (o : Nat) (w : World) (g : Nat → Value), Arr w b t n g → Arr (w.setCells b o vs) b t n (ov g o vs)
  | [], o, w, g, h => h.congr fun c _ => by simp [ov]
  | v :: r, o, w, g, h => by
    refine (Arr.setCells r (o + 1) _ _ (h.set o v)).congr fun c _ => ?_
    unfold ov
    by_cases h1 : c < o
    · rw [if_neg (by omega), if_neg (by omega), fupd_other _ _ (by omega)]
    · by_cases h2 : c = o
      · subst h2
        rw [if_neg (by omega), if_pos (Nat.le_refl _), fupd_same]
        simp
      · rw [if_pos (by omega), if_pos (by omega), fupd_other _ _ h2, show c - o = (c - (o + 1)) + 1 by omega, List.getElem?_cons_succ]

theorem heap_setCells (b : Nat) : ∀ (vs : List Value) (o : Nat) (w : World) (g : Nat), g ≠ b → (w.setCells b o vs).heap[g]? = w.heap[g]?
  | [], _, _, _, _ => rfl
  | v :: r, o, w, g, hg => by
    rw [World.setCells, heap_setCells b r (o + 1) _ g hg]
    exact Below.heap_setCell _ _ _ _ hg

theorem size_setCells (b : Nat) : ∀ (vs : List Value) (o : Nat) (w : World), (w.setCells b o vs).heap.size = w.heap.size
  | [], _, _ => rfl
  | v :: r, o, w => by
    rw [World.setCells, size_setCells b r (o + 1)]
    simp [World.setCell]

theorem Below.setCells {B : Nat} {a : World} (b : Nat) (hb : B ≤ b) : ∀ (vs : List Value) (o : Nat) (w : World), Below B a w → Below B a (w.setCells b o vs)
  | [], _, _, h => h
  | v :: r, o, w, h => by
    rw [World.setCells]
    exact Below.setCells b hb r (o + 1) _ (h.setCell hb v)

theorem zero38 : (zeroValue 38).run Yba.prog = fun w => .ok (.agg #[.int .i64 0, .int .i64 0]) w := by
  funext w
  kernel_rfl

theorem clear_run (w : World) (b o n cap N : Nat) (g : Nat → Value) (hA : Arr w b 38 N g) (hn : 0 < n) (hN : o + 2 * n ≤ N) (ty : TypeId) :
    (Builtin.clear_ #[36] ty #[.slice (some ⟨b, o, none⟩) n cap]).run Yba.prog w = .ok (.tuple #[]) (w.setCells b o (List.replicate (2 * n) (.int .i64 0))) := by
  obtain ⟨n, rfl⟩ : ∃ m, n = m + 1 := ⟨n - 1, by omega⟩
  have hz : (Builtin.zeroCells #[Value.int .i64 0, Value.int .i64 0] (n + 1)).toList = List.replicate (2 * (n + 1)) (.int .i64 0) := by
    apply List.ext_getElem?
    intro i
    rw [List.getElem?_replicate, Builtin.zeroCells, Array.getElem?_toList, Array.getElem?_map]
    by_cases hi : i < 2 * (n + 1)
    · rw [if_pos hi, Array.getElem?_eq_getElem (by simp; omega)]
      have h2 : i % 2 = 0 ∨ i % 2 = 1 := by omega
      rcases h2 with h2 | h2 <;> simp [h2]
    · rw [if_neg hi, Array.getElem?_eq_none (by simp; omega)]
      rfl
  have hst := run_storeCells_cells (P := Yba.prog) b o (List.replicate (2 * (n + 1)) (.int .i64 0)) 0 w (fun j hj => by rw [List.length_replicate] at hj; rw [Nat.add_zero, hA.cell (by omega)]; rfl) (fun j hj => hA.frozen _) (fun v hv => by rw [List.eq_of_mem_replicate hv]; rfl)
  simp only [Nat.add_zero] at hst
  have hz38 : (zeroValue 38).run Yba.prog w = .ok (.agg #[.int .i64 0, .int .i64 0]) w := by rw [zero38]
  simp [Builtin.clear_, run_underlying Yba.underlying36, hz38, Value.cells, hz, hst, Result.andThen]

section
variable {P : Program} {w w' : World} {ops : Array Oper} {rest : List Oper} {o : Oper} {a : Act} {Q : Exit → Act → World → Prop} {K : Act → World → Prop} {E : Prop}

theorem wp_append_eq (s x : Operand) (t : TypeId) (ho : o.op = .call { callee := .builtin .append, args := #[s, x], argTypes := #[t, t] }) (u y v' : Value) (hs : a.eval s = u) (hx : a.eval x = y)
    (hr : (Builtin.append_ #[t, t] o.type #[u, y]).run P w = .ok v' w') (h : K (a.put o.dst v') w') : o.wp P a w K Q := by
  unfold Oper.wp execOp
  simp only [ho, resolve, invoke, builtin, Sem.run_bind, Sem.run_pure, Result.andThen_ok, List.map_toArray, List.map_cons, List.map_nil, hs, hx, hr]
  exact h

theorem wpList_append_eq (hgd : o.guard = none) (s x : Operand) (t : TypeId) (ho : o.op = .call { callee := .builtin .append, args := #[s, x], argTypes := #[t, t] }) (u y v' : Value) (hs : a.eval s = u) (hx : a.eval x = y)
    (hr : (Builtin.append_ #[t, t] o.type #[u, y]).run P w = .ok v' w') (h : wpList P ops Q rest (a.put o.dst v') w') : wpList P ops Q (o :: rest) a w :=
  wpList_plain hgd fun _ hK => wp_append_eq s x t ho u y v' hs hx hr (hK _ _ h)

theorem step_append_eq (hgd : o.guard = none) (s x : Operand) (t : TypeId) (ho : o.op = .call { callee := .builtin .append, args := #[s, x], argTypes := #[t, t] }) (u y v' : Value) (hs : a.eval s = u) (hx : a.eval x = y)
    (hr : (Builtin.append_ #[t, t] o.type #[u, y]).run P w = .ok v' w') (h : K (a.put o.dst v') w') :
    if Region.wanted o (yielded ops a.tmps) = true then Oper.wp P o a w K Q else E := by
  have hw : Region.wanted o (yielded ops a.tmps) = true := by simp [Region.wanted, hgd]
  rw [if_pos hw]
  exact wp_append_eq s x t ho u y v' hs hx hr h

end

theorem info38 : ∃ i, Yba.prog.info? 38 = some i ∧ i.zero = some (.agg #[.int .i64 0, .int .i64 0]) ∧ i.size = 2 ∧ i.bytes = 16 := by
  have h : (Yba.prog.info? 38).map (fun i => (i.zero, i.size, i.bytes)) = some (some (.agg #[.int .i64 0, .int .i64 0]), 2, 16) := by kernel_rfl
  obtain ⟨i, hi, e⟩ := Option.map_eq_some_iff.1 h
  simp only [Prod.mk.injEq] at e
  exact ⟨i, hi, e.1, e.2.1, e.2.2⟩

/-- The cells of g from o on, m of them. -/
def cut (g : Nat → Value) (o m : Nat) : List Value := (List.range m).map fun j => g (o + j)
theorem cut_len (g : Nat → Value) (o m : Nat) : (cut g o m).length = m := by simp [cut]
theorem cut_get (g : Nat → Value) (o m j : Nat) (h : j < m) : (cut g o m)[j]? = some (g (o + j)) := by simp [cut, h]

/-- append(s[:0], s[c:]...) where the source lies at offset o. -/
theorem app_run (w : World) (b m c o : Nat) (k : Nat → Int) (hA : Arr w b 38 (2 * m) (fun j => .int .i64 (k j))) (hc : c ≤ m) (ho : c < m → o = 2 * c) (cp : Nat) (ty : TypeId) :
    (Builtin.append_ #[36, 36] ty #[.slice (some ⟨b, 0, none⟩) 0 m, .slice (some ⟨b, o, none⟩) (m - c) cp]).run Yba.prog w = .ok (.slice (some ⟨b, 0, none⟩) (m - c) m) (w.setCells b 0 (cut (fun j => .int .i64 (k j)) (2 * c) (2 * (m - c)))) := by
  obtain ⟨i, hi, hz, hs, hby⟩ := info38
  have h := run_append_room_cells (P := Yba.prog) w 36 ty 38 i Yba.underlying36 hi b 0 0 m ⟨b, o, none⟩ (m - c) cp (cut (fun j => .int .i64 (k j)) (2 * c) (2 * (m - c))) (by rw [cut_len, hs]; omega)
    (fun j u hj => by
      have hlt : j < 2 * (m - c) := by have := (List.getElem?_eq_some_iff.1 hj).1; rwa [cut_len] at this
      rw [cut_get _ _ _ _ hlt] at hj
      cases hj
      have hadd : (⟨b, o, none⟩ : Addr).add j = ⟨b, o + j, none⟩ := by unfold Addr.add; split <;> simp_all
      rw [hadd, ho (by omega), hA.cell (by omega)])
    (fun u hu => by
      obtain ⟨j, _, rfl⟩ := List.mem_map.1 hu
      rfl)
    (by omega) (fun j hj => by rw [cut_len] at hj; rw [hs, Nat.zero_mul, Nat.add_zero, Nat.zero_add, hA.cell (by omega)]; rfl) (fun j hj => hA.frozen _)
  simpa using h

/-- What Delete(s, 0, c) leaves of the row. -/
def DelOut (w : World) (b m c : Nat) (k : Nat → Int) (w' : World) : Prop :=
  Arr w' b 38 (2 * m) (fun j => .int .i64 (if j < 2 * (m - c) then k (2 * c + j) else 0)) ∧ (∀ g, g ≠ b → w'.heap[g]? = w.heap[g]?) ∧ w'.heap.size = w.heap.size ∧ ∀ B, B ≤ b → Below B w w'

theorem del_out (w : World) (b m c : Nat) (k : Nat → Int) (hA : Arr w b 38 (2 * m) (fun j => .int .i64 (k j))) (hc : c ≤ m) (o : Nat) (ho : o = 2 * (m - c)) :
    DelOut w b m c k ((w.drew.setCells b 0 (cut (fun j => .int .i64 (k j)) (2 * c) (2 * (m - c)))).setCells b o (List.replicate (2 * c) (.int .i64 0))) := by
  subst ho
  refine ⟨?_, fun g hg => ?_, ?_, fun B hB => ?_⟩
  · have hA' : Arr w.drew b 38 (2 * m) (fun j => .int .i64 (k j)) := hA.of_block rfl
    refine (Arr.setCells _ _ _ _ (Arr.setCells _ _ _ _ hA')).congr fun j hj => ?_
    unfold ov
    by_cases h1 : j < 2 * (m - c)
    · rw [if_neg (by omega), if_pos (Nat.zero_le _), Nat.sub_zero, cut_get _ _ _ _ h1, if_pos h1]
      rfl
    · rw [if_pos (by omega), List.getElem?_replicate, if_pos (by omega), if_neg h1]
      rfl
  · rw [heap_setCells b _ _ _ g hg, heap_setCells b _ _ _ g hg]
    rfl
  · rw [size_setCells, size_setCells]
    rfl
  · exact Below.setCells b hB _ _ _ (Below.setCells b hB _ _ _ (Below.refl B w).drew)

set_option maxRecDepth 100000 in
set_option maxHeartbeats 400000 in
theorem delete_calls (w : World) (b m c : Nat) (k : Nat → Int) (hA : Arr w b 38 (2 * m) (fun j => .int .i64 (k j))) (hc0 : 0 < c) (hc : c ≤ m) (hm : m ≤ 1024) :
    Calls Yba.prog 6 #[.slice (some ⟨b, 0, none⟩) m m, .int .i64 0, .int .i64 (c : Nat)] w fun e w' => e = .returned (.slice (some ⟨b, 0, none⟩) (m - c) m) ∧ DelOut w b m c k w' := by
  have h1 : (0 : Int) < (c : Int) := by omega
  have h2 : (c : Int) ≤ (m : Int) := by omega
  have h3 : (m : Int) ≤ 1024 := by omega
  have hne : ((0 : Int) == (c : Int)) = false := by simp; omega
  have hmc : ¬ m = m - c := by omega
  have hmc1 : ((m - c : Nat) : Int) = (m : Int) - (c : Int) := by omega
  have ap : ∀ W : World, W.heap[b]? = w.heap[b]? → (Builtin.append_ #[36, 36] 36 #[.slice (some ⟨b, 0, none⟩) 0 m, .slice (if m = c then some ⟨b, 0, none⟩ else some ⟨b, c * 2, none⟩) (m - c) (m - c)]).run Yba.prog W = .ok (.slice (some ⟨b, 0, none⟩) (m - c) m) (W.setCells b 0 (cut (fun j => .int .i64 (k j)) (2 * c) (2 * (m - c)))) := by
    intro W hW
    by_cases hcm : m = c
    · rw [if_pos hcm]
      exact app_run W b m c 0 k (hA.of_block hW) hc (fun _ => by omega) (m - c) 36
    · rw [if_neg hcm]
      exact app_run W b m c (c * 2) k (hA.of_block hW) hc (fun _ => by omega) (m - c) 36
  go_enter Yba.func6, Yba.ntmps6
  go_wp2_with fail
  go_region_law (refine step_append_eq rfl _ _ 36 (by rfl) _ _ _ (by rfl) (by rfl) (ap _ (by rfl)) ?_)
  go_wp2_with fail
  · subst h
    have hA1 := Arr.setCells (cut (fun j => .int .i64 (k j)) (2 * m) 0) 0 w.drew _ (hA.of_block rfl)
    rw [clear_run _ b 0 m m (2 * m) _ hA1 hc0 (by omega)]
    go_wp2_with fail
    go_ret
    have e : m - m = 0 := Nat.sub_self m
    have := del_out w b m m k hA hc 0 (by omega)
    rw [e] at this
    exact ⟨rfl, this⟩
  · have hA1 := Arr.setCells (cut (fun j => .int .i64 (k j)) (2 * c) (2 * (m - c))) 0 w.drew _ (hA.of_block rfl)
    have e : m - (m - c) = c := by omega
    rw [e, clear_run _ b ((m - c) * 2) c c (2 * m) _ hA1 hc0 (by omega)]
    go_wp2_with fail
    go_ret
    exact ⟨rfl, del_out w b m c k hA hc _ (by omega)⟩

end Go.Proofs.Ybulkbowq
