/-
  append and a map's store by their run equations: at an operation of a plain region's list, and at a step of a region that draws its order. Over whatever program.
-/
import Derived.WalkKit
import Derived.RegionTactic
import Derived.Laws.AppendOwn
namespace Go.Proofs.YbulkbomyFmt

section
variable {P : Program} {w w' : World} {ops : Array Oper} {rest : List Oper} {o : Oper} {a : Act} {Q : Exit → Act → World → Prop} {K : Act → World → Prop} {E : Prop}

theorem wp_append_eq (s x : Operand) (t : TypeId) (ho : o.op = .call { callee := .builtin .append, args := #[s, x], argTypes := #[t, t] }) (u y v' : Value) (hs : a.eval s = u) (hx : a.eval x = y)
    (hr : (Builtin.append_ #[t, t] o.type #[u, y]).run P w = .ok v' w') (h : K (a.put o.dst v') w') : o.wp P a w K Q := by
  unfold Oper.wp execOp
  simp only [ho, resolve, invoke, builtin, Sem.run_bind, Sem.run_pure, Result.andThen_ok, List.map_toArray, List.map_cons, List.map_nil, hs, hx, hr]
  exact h

theorem wpList_append_eq (hgd : o.guard = none) (s x : Operand) (t : TypeId) (ho : o.op = .call { callee := .builtin .append, args := #[s, x], argTypes := #[t, t] }) (u y v' : Value) (hs : a.eval s = u) (hx : a.eval x = y)
    (hr : (Builtin.append_ #[t, t] o.type #[u, y]).run P w = .ok v' w') (h : wpList P ops Q rest (a.put o.dst v') w') : wpList P ops Q (o :: rest) a w :=
  wpList_plain hgd fun _ hK => wp_append_eq s x t ho u y v' hs hx hr (hK _ _ h)

theorem step_append_eq (hgd : o.guard = none) (s x : Operand) (t : TypeId) (ho : o.op = .call { callee := .builtin .append, args := #[s, x], argTypes := #[t, t] }) (u y v' : Value) (hs : a.eval s = u) (hx : a.eval x = y)
    (hr : (Builtin.append_ #[t, t] o.type #[u, y]).run P w = .ok v' w') (h : K (a.put o.dst v') w') :
    if Region.wanted o (yielded ops a.tmps) = true then Oper.wp P o a w K Q else E := by
  have hw : Region.wanted o (yielded ops a.tmps) = true := by simp [Region.wanted, hgd]
  rw [if_pos hw]
  exact wp_append_eq s x t ho u y v' hs hx hr h

theorem wp_mapUpdate_eq (m x v : Operand) (t : TypeId) (ho : o.op = Op.mapUpdate t m x v) (r y u : Value) (hm : a.eval m = r) (hx : a.eval x = y) (hv : a.eval v = u)
    (hr : (Instr.mapUpdate t r y u).run P w = .ok () w') (h : K (a.put o.dst undef) w') : o.wp P a w K Q := by
  unfold Oper.wp
  simp [execOp, ho, hm, hx, hv, hr, Result.andThen]
  exact h

theorem wpList_mapUpdate_eq (hgd : o.guard = none) (m x v : Operand) (t : TypeId) (ho : o.op = Op.mapUpdate t m x v) (r y u : Value) (hm : a.eval m = r) (hx : a.eval x = y) (hv : a.eval v = u)
    (hr : (Instr.mapUpdate t r y u).run P w = .ok () w') (h : wpList P ops Q rest (a.put o.dst undef) w') : wpList P ops Q (o :: rest) a w :=
  wpList_plain hgd fun _ hK => wp_mapUpdate_eq m x v t ho r y u hm hx hv hr (hK _ _ h)

theorem step_mapUpdate_eq (hgd : o.guard = none) (m x v : Operand) (t : TypeId) (ho : o.op = Op.mapUpdate t m x v) (r y u : Value) (hm : a.eval m = r) (hx : a.eval x = y) (hv : a.eval v = u)
    (hr : (Instr.mapUpdate t r y u).run P w = .ok () w') (h : K (a.put o.dst undef) w') :
    if Region.wanted o (yielded ops a.tmps) = true then Oper.wp P o a w K Q else E := by
  have hw : Region.wanted o (yielded ops a.tmps) = true := by simp [Region.wanted, hgd]
  rw [if_pos hw]
  exact wp_mapUpdate_eq m x v t ho r y u hm hx hv hr h
end

end Go.Proofs.YbulkbomyFmt
