/-
  The statement 'c.reads = append(c.reads, entry)' of the law, made ready for the walk.
-/
import Derived.Test.YbulkbopqTPush
import Derived.Test.YbulkbopqTSmall
namespace Go.Proofs.Ybulkbopq
open Go.RowKit Go.Sort

/-- The box of one incoming triple. -/
def Bx (W : World) (b sp k s : Nat) : Prop := W.heap[b]? = some (.cells #[.int .u8 (sp : Nat), .int .u8 (k : Nat), .int .u64 (s : Nat)] 107 (0, 0))

theorem Bx.c1 {W : World} {b sp k s : Nat} (h : Bx W b sp k s) : W.cell? ⟨b, 1, none⟩ = some (.int .u8 (k : Nat)) := by unfold Bx at h; simp only [World.cell?, h]; rfl
theorem Bx.c2 {W : World} {b sp k s : Nat} (h : Bx W b sp k s) : W.cell? ⟨b, 2, none⟩ = some (.int .u64 (s : Nat)) := by unfold Bx at h; simp only [World.cell?, h]; rfl
theorem Bx.lt {W : World} {b sp k s : Nat} (h : Bx W b sp k s) : b < W.heap.size := (Array.getElem?_eq_some_iff.1 h).1
theorem Bx.gr {W W' : World} {b sp k s : Nat} (h : Bx W b sp k s) (g : Gr W W') : Bx W' b sp k s := by unfold Bx; rw [g.block h.lt]; exact h
theorem Bx.set {W : World} {b sp k s : Nat} (h : Bx W b sp k s) {p : Addr} (hp : b ≠ p.block) (v : Value) : Bx (W.setCell p v) b sp k s := by
  unfold Bx; rw [Below.heap_setCell _ _ _ _ hp]; exact h

theorem cell_alloc_of {w : World} {p : Addr} {v : Value} (h : w.cell? p = some v) (o : Obj) : (w.alloc o).cell? p = some v := ((Gr.refl w).alloc o).cell_of h

/-- A cell of another block set. -/
theorem cell_set_of {w : World} {p q : Addr} {u : Value} (h : w.cell? q = some u) (hn : p.block ≠ q.block) (v : Value) : (w.setCell p v).cell? q = some u := by
  have e : (w.setCell p v).heap[q.block]? = w.heap[q.block]? := Below.heap_setCell _ _ _ _ (Ne.symm hn)
  simp only [World.cell?, e] at h ⊢
  exact h

/-- An operation behind a name: what reads and writes one cell is not taken first. -/
def hideOp (o : Op) : Op := o
theorem hideOp_eq (o : Op) : hideOp o = o := rfl

variable {P : Program} {ops : Array Oper} {o : Oper} {a : Act} {w : World} {K : Act → World → Prop} {Q : Exit → Act → World → Prop} {E : Prop}

theorem step_append_ex {R : Option Addr → Nat → Nat → World → Prop} (hgd : o.guard = none) (s x : Operand) (t : TypeId) (ho : o.op = .call { callee := .builtin .append, args := #[s, x], argTypes := #[t, t] }) (u y : Value) (hs : a.eval s = u) (hx : a.eval x = y)
    (hr : ∃ p m c w', (Builtin.append_ #[t, t] o.type #[u, y]).run P w = .ok (.slice p m c) w' ∧ R p m c w') (h : ∀ p m c w', R p m c w' → K (a.put o.dst (.slice p m c)) w') :
    if Region.wanted o (yielded ops a.tmps) = true then Oper.wp P o a w K Q else E := by
  obtain ⟨p, m, c, w', h1, h2⟩ := hr
  exact step_append_eq hgd s x t ho u y _ hs hx h1 (h p m c w' h2)

end Go.Proofs.Ybulkbopq

namespace Go.Proofs.Ybulkbopq
open Go.RowKit Go.Sort
variable {w W W' : World} {B q : Nat} {fo : Bool} {sn : Value} {rs ws : List (Nat × Nat × Nat)} {vr vw : Value} {GR GW GD : Nat → Nat → Option Nat} {us ru : Nat → Bool}

theorem Ls.callR (h : Ls w W B q fo sn rs ws vr vw GR GW GD us ru) {b1 sp k s H j : Nat} (hj : j < 3) (hB : Bx W b1 sp k s) (hk : k < 256) (Wx : World) (g : Gr W Wx) (hx : Wx.heap.size = H) :
    Calls Yba.prog 16 #[.int .u8 (k : Nat), .int .u64 (s : Nat)] Wx fun e w' => e = .returned (.slice (some ⟨H, 0, none⟩) 1 1) ∧ Hid (Gr W w' ∧ ElB w' H k s) ∧ w'.heap.size = H + 1 ∧
      w'.cell? ⟨B + 9, 4, none⟩ = some vr ∧ w'.cell? ⟨B + 9, 5, none⟩ = some vw ∧ w'.cell? ⟨B + 1 + 1 + 1, j * 2, none⟩ = some (.pointer (some ⟨B + j, 0, none⟩)) ∧ w'.cell? ⟨B + 1 + 1 + 1, j * 2 + 1, none⟩ = some (.pointer none) ∧ w'.cell? ⟨b1, 1, none⟩ = some (.int .u8 (k : Nat)) ∧ w'.cell? ⟨b1, 2, none⟩ = some (.int .u64 (s : Nat)) := by
  refine (point_calls Wx k s hk).mono ?_
  rintro e w' ⟨rfl, rfl⟩
  have g2 := g.alloc (.cells #[.bool false, .int .i64 (k : Nat), .slice none 0 0, .bool false, .int .i64 (k : Nat), .slice none 0 0, .bool false, .bool false, .bool false, .bool false, .int .u64 (s : Nat)] 138)
  refine ⟨by rw [hx], ⟨g2, ?_⟩, by simp [hx], g2.cell_of (by rw [h.cc.cell (by omega)]; rfl), g2.cell_of (by rw [h.cc.cell (by omega)]; rfl), g2.cell_of (h.ks j hj).1, g2.cell_of (h.ks j hj).2, (hB.gr g2).c1, (hB.gr g2).c2⟩
  unfold ElB
  rw [← hx]
  exact heap_alloc_new Wx _

theorem Ls.appR (h : Ls w W B q fo sn rs ws vr vw GR GW GD us ru) (hl : rs.length ≤ 1024) {b1 sp k s H j : Nat} (hj : j < 3) (hB : Bx W b1 sp k s) (hb1 : B + 15 ≤ b1) (hH : W.heap.size = H) (Wx : World) (g : Gr W Wx ∧ ElB Wx H k s)
    (he : Wx.heap[H + 1]? = some (.cells #[.pointer (some ⟨B + j, 0, none⟩), .pointer none, .slice (some ⟨H, 0, none⟩) 1 1] 110 (0, 0))) :
    ∃ p m c w', (Builtin.append_ #[96, 96] 96 #[vr, .slice (some ⟨H + 1, 0, none⟩) 1 1]).run Yba.prog Wx = .ok (.slice p m c) w' ∧
      (w'.frozen? ⟨B + 9, 4, none⟩ = false ∧ Hid (Ls w (w'.setCell ⟨B + 9, 4, none⟩ (.slice p m c)) B q fo sn (rs ++ [(j, k, s)]) ws (.slice p m c) vw GR GW GD us ru) ∧ Hid (Bx (w'.setCell ⟨B + 9, 4, none⟩ (.slice p m c)) b1 sp k s) ∧
      w'.cell? ⟨B + 9, 4, none⟩ = some vr ∧ w'.cell? ⟨B + 1 + 1 + 1, j * 2, none⟩ = some (.pointer (some ⟨B + j, 0, none⟩)) ∧ w'.cell? ⟨B + 1 + 1 + 1, j * 2 + 1, none⟩ = some (.pointer none) ∧ w'.cell? ⟨b1, 1, none⟩ = some (.int .u8 (k : Nat)) ∧ w'.cell? ⟨b1, 2, none⟩ = some (.int .u64 (s : Nat))) := by
  have hsz := h.size
  obtain ⟨p, m, c, w5, h1, h2, h3, h4, h5⟩ := (h.gr g.1).pushR hl g.2 (by omega) he
  have hbx : Bx w5 b1 sp k s := h4.out.2 _ _ _ (by decide) (hB.gr g.1)
  have hc : ∀ o, w5.cell? ⟨B + 1 + 1 + 1, o, none⟩ = W.cell? ⟨B + 1 + 1 + 1, o, none⟩ := fun o => by
    simp only [World.cell?]; rw [h4.out.1 (B + 1 + 1 + 1) (by omega), g.1.block (by omega)]
  exact ⟨p, m, c, w5, h1, h3, h5, hbx.set (by show b1 ≠ B + 9; omega) _, h2, by rw [hc]; exact (h.ks j hj).1, by rw [hc]; exact (h.ks j hj).2, hbx.c1, hbx.c2⟩

theorem Ls.appW (h : Ls w W B q fo sn rs ws vr vw GR GW GD us ru) (hl : ws.length ≤ 1024) {b1 sp k s H j : Nat} (hj : j < 3) (hB : Bx W b1 sp k s) (hb1 : B + 15 ≤ b1) (hH : W.heap.size = H) (Wx : World) (g : Gr W Wx ∧ ElB Wx H k s)
    (he : Wx.heap[H + 1]? = some (.cells #[.pointer (some ⟨B + j, 0, none⟩), .pointer none, .slice (some ⟨H, 0, none⟩) 1 1] 110 (0, 0))) :
    ∃ p m c w', (Builtin.append_ #[96, 96] 96 #[vw, .slice (some ⟨H + 1, 0, none⟩) 1 1]).run Yba.prog Wx = .ok (.slice p m c) w' ∧
      (w'.frozen? ⟨B + 9, 5, none⟩ = false ∧ Hid (Ls w (w'.setCell ⟨B + 9, 5, none⟩ (.slice p m c)) B q fo sn rs (ws ++ [(j, k, s)]) vr (.slice p m c) GR GW GD us ru) ∧ Hid (Bx (w'.setCell ⟨B + 9, 5, none⟩ (.slice p m c)) b1 sp k s) ∧
      w'.cell? ⟨B + 9, 5, none⟩ = some vw ∧ w'.cell? ⟨B + 1 + 1 + 1, j * 2, none⟩ = some (.pointer (some ⟨B + j, 0, none⟩)) ∧ w'.cell? ⟨B + 1 + 1 + 1, j * 2 + 1, none⟩ = some (.pointer none) ∧ w'.cell? ⟨b1, 1, none⟩ = some (.int .u8 (k : Nat)) ∧ w'.cell? ⟨b1, 2, none⟩ = some (.int .u64 (s : Nat))) := by
  have hsz := h.size
  obtain ⟨p, m, c, w5, h1, h2, h3, h4, h5⟩ := (h.gr g.1).pushW hl g.2 (by omega) he
  have hbx : Bx w5 b1 sp k s := h4.out.2 _ _ _ (by decide) (hB.gr g.1)
  have hc : ∀ o, w5.cell? ⟨B + 1 + 1 + 1, o, none⟩ = W.cell? ⟨B + 1 + 1 + 1, o, none⟩ := fun o => by
    simp only [World.cell?]; rw [h4.out.1 (B + 1 + 1 + 1) (by omega), g.1.block (by omega)]
  exact ⟨p, m, c, w5, h1, h3, h5, hbx.set (by show b1 ≠ B + 9; omega) _, h2, by rw [hc]; exact (h.ks j hj).1, by rw [hc]; exact (h.ks j hj).2, hbx.c1, hbx.c2⟩

/-- A row laid behind: it is there, and what stood stands. -/
theorem row_new {W Wx : World} {H k s : Nat} (h : Gr W Wx ∧ ElB Wx H k s) (o : Obj) : Gr W (Wx.alloc o) ∧ ElB (Wx.alloc o) H k s := by
  refine ⟨h.1.alloc o, ?_⟩
  unfold ElB
  rw [((Gr.refl Wx).alloc o).block (by have := h.2; unfold ElB at this; exact (Array.getElem?_eq_some_iff.1 this).1)]
  exact h.2
theorem row_at {Wx : World} {H : Nat} (h : Wx.heap.size = H) (o : Obj) : (Wx.alloc o).heap[H]? = some o := by rw [← h]; exact heap_alloc_new Wx o

theorem used_snoc' (R : List (Nat × Nat × Nat)) (j k s : Nat) : used (R ++ [(j, k, s)]) = fun i => if i = j then true else used R i := funext fun i => used_snoc R (j, k, s) i

theorem Ls.nextR {R : List (Nat × Nat × Nat)} {j k s : Nat} (h : Ls w W B q fo sn (R ++ [(j, k, s)]) ws vr vw (mstep max q (modR q R) (j, k, s)) GW GD (fun i => if i = j then true else used R i) (fun i => if i = j then true else used R i)) :
    Ls w W B q fo sn (R ++ [(j, k, s)]) ws vr vw (modR q (R ++ [(j, k, s)])) GW GD (used (R ++ [(j, k, s)])) (used (R ++ [(j, k, s)])) := by
  rw [modR_snoc, used_snoc']
  exact h

theorem Ls.nextW {R : List (Nat × Nat × Nat)} {j k s : Nat} (h : Ls w W B q false sn rs (R ++ [(j, k, s)]) vr vw GR (mstep early q (modW q R) (j, k, s)) (modD q false R) (fun i => if i = j then true else used (rs ++ R) i) ru) :
    Ls w W B q false sn rs (R ++ [(j, k, s)]) vr vw GR (modW q (R ++ [(j, k, s)])) (modD q false (R ++ [(j, k, s)])) (used (rs ++ (R ++ [(j, k, s)]))) ru := by
  rw [modW_snoc, ← List.append_assoc, used_snoc']
  exact h
theorem Ls.nextD {R : List (Nat × Nat × Nat)} {j k s : Nat} (h : Ls w W B q true sn rs (R ++ [(j, k, s)]) vr vw GR (mstep early q (modW q R) (j, k, s)) (mstep max q (modD q true R) (j, k, s)) (fun i => if i = j then true else used (rs ++ R) i) ru) :
    Ls w W B q true sn rs (R ++ [(j, k, s)]) vr vw GR (modW q (R ++ [(j, k, s)])) (modD q true (R ++ [(j, k, s)])) (used (rs ++ (R ++ [(j, k, s)]))) ru := by
  rw [modW_snoc, ← List.append_assoc, used_snoc']
  have e : modD q true (R ++ [(j, k, s)]) = mstep max q (modD q true R) (j, k, s) := modR_snoc q R (j, k, s)
  rw [e]
  exact h

/-- The place of a key in the model, behind its flag's store. -/
theorem mod_set1 {W : World} {b : Nat} {G : Nat → Nat → Option Nat} (h : Arr W b 104 1536 (modF G)) {j k : Nat} (hj : j < 3) (hk : k < 256) :
    (W.setCell ⟨b, j * 256 + k, none⟩ (.bool true)).cell? ⟨b, 768 + j * 256 + k, none⟩ = some (.int .u64 ((G j k).getD 0 : Nat)) ∧ (W.setCell ⟨b, j * 256 + k, none⟩ (.bool true)).frozen? ⟨b, 768 + j * 256 + k, none⟩ = false := by
  refine ⟨?_, (h.set _ _).frozen _⟩
  rw [cell_setCell_other (.inr (by omega))]
  exact (mod_of_arr h hj k hk).2
theorem max_if (a b m : Nat) (h : max a b = m) : (if (a : Int) < (b : Int) then (b : Int) else (a : Int)) = (m : Int) := by
  split <;> omega

end Go.Proofs.Ybulkbopq
