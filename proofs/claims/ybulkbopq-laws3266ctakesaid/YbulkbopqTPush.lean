/-
  One entry more in the commit's rows.
-/
import Derived.Test.YbulkbopqTLs
namespace Go.Proofs.Ybulkbopq
open Go.RowKit Go.Sort

theorem RowA.keep {w w' : World} {B base : Nat} {v : Value} {rs : List (Nat × Nat × Nat)} (h : RowA w B base v rs) (ob : Option Nat) (hob : ∀ g, ob = some g → v.ownBlock ≠ some g ∧ ∃ cur, w.heap[g]? = some (.cells cur 110 (0, 0))) (hb : ∀ x, x < w.heap.size → ob ≠ some x → w'.heap[x]? = w.heap[x]?) : RowA w' B base v rs := by
  obtain ⟨ys, h1, h2, h3⟩ := h
  refine ⟨ys, h1, ⟨h2.1, ?_⟩, fun y hy => ⟨(h3 y hy).1, (h3 y hy).2.of_block (hb _ (h3 y hy).2.lt (fun e => ?_))⟩⟩
  · rcases h2.2 with h4 | ⟨g, cap, cur, rfl, hb', hg, r⟩
    · exact .inl h4
    · exact .inr ⟨g, cap, cur, rfl, hb', by rw [hb g (Array.getElem?_eq_some_iff.1 hg).1 (fun e => (hob g e).1 rfl)]; exact hg, r⟩
  · obtain ⟨cur, hc⟩ := (hob _ e).2
    have := (h3 y hy).2
    unfold ElB at this
    rw [hc] at this
    simp at this

theorem RowA.tag {w : World} {B base : Nat} {v : Value} {rs : List (Nat × Nat × Nat)} (h : RowA w B base v rs) {g : Nat} (hg : v.ownBlock = some g) : base ≤ g ∧ g < w.heap.size ∧ ∃ cur, w.heap[g]? = some (.cells cur 110 (0, 0)) := by
  obtain ⟨ys, h1, h2, h3⟩ := h
  rcases h2.2 with ⟨rfl, _⟩ | ⟨g', cap, cur, rfl, hb', hgg, r⟩
  · simp [Value.ownBlock] at hg
  · have : g' = g := by simpa [Value.ownBlock] using hg
    subst this
    exact ⟨hb', (Array.getElem?_eq_some_iff.1 hgg).1, cur, hgg⟩

variable {w W W' : World} {B q : Nat} {fo : Bool} {sn : Value} {rs ws : List (Nat × Nat × Nat)} {vr vw : Value} {GR GW GD : Nat → Nat → Option Nat} {us ru : Nat → Bool}

theorem Ls.pushR (h : Ls w W B q fo sn rs ws vr vw GR GW GD us ru) (hl : rs.length ≤ 1024) {j k s rb e : Nat} (hrb : ElB W rb k s) (hbr : B + 15 ≤ rb)
    (he : W.heap[e]? = some (.cells #[.pointer (some ⟨B + j, 0, none⟩), .pointer none, .slice (some ⟨rb, 0, none⟩) 1 1] 110 (0, 0))) :
    ∃ a n c w5, (Builtin.append_ #[96, 96] 96 #[vr, .slice (some ⟨e, 0, none⟩) 1 1]).run Yba.prog W = .ok (.slice a n c) w5 ∧ w5.cell? ⟨B + 9, 4, none⟩ = some vr ∧ w5.frozen? ⟨B + 9, 4, none⟩ = false ∧
      Hid ((∀ x, x < B + 15 → w5.heap[x]? = W.heap[x]?) ∧ ∀ (x : Nat) (arr : Array Value) (t : TypeId), t ≠ 110 → W.heap[x]? = some (Obj.cells arr t (0, 0)) → w5.heap[x]? = some (Obj.cells arr t (0, 0))) ∧ Hid (Ls w (w5.setCell ⟨B + 9, 4, none⟩ (.slice a n c)) B q fo sn (rs ++ [(j, k, s)]) ws (.slice a n c) vw GR GW GD us ru) := by
  have hs := h.size
  obtain ⟨a, n, c, w5, hr, hid⟩ := h.rowR.push hl (by omega) hrb hbr he
  obtain ⟨hrow, hx, hsz, hat, t1, t2, t3⟩ := hid.out
  have hlow : ∀ x, x < B + 15 → w5.heap[x]? = W.heap[x]? := fun x hx' => hx x (by omega) (fun e' => by have := (h.rowR.tag e').1; omega)
  have hcc : Arr w5 (B + 9) 98 12 (cF sn q fo vr vw) := h.cc.of_block (hlow _ (by omega))
  have e2 : ∀ x, x < B + 15 → x ≠ B + 9 → (w5.setCell ⟨B + 9, 4, none⟩ (.slice a n c)).heap[x]? = W.heap[x]? := fun x h1 h2 => (Below.heap_setCell _ _ _ _ h2).trans (hlow x h1)
  have ec : ∀ x o, x < B + 15 → x ≠ B + 9 → (w5.setCell ⟨B + 9, 4, none⟩ (.slice a n c)).cell? ⟨x, o, none⟩ = W.cell? ⟨x, o, none⟩ := fun x o h1 h2 => by simp only [World.cell?, e2 x h1 h2]
  have hhi : ∀ x, B + 15 ≤ x → (w5.setCell ⟨B + 9, 4, none⟩ (.slice a n c)).heap[x]? = w5.heap[x]? := fun x h1 => Below.heap_setCell _ _ _ _ (by show x ≠ B + 9; omega)
  have hoth : ∀ (x : Nat) (arr : Array Value) (t : TypeId), t ≠ 110 → W.heap[x]? = some (Obj.cells arr t (0, 0)) → w5.heap[x]? = some (Obj.cells arr t (0, 0)) := fun x arr t ht hxx => by
    rw [hx x (Array.getElem?_eq_some_iff.1 hxx).1 (fun e' => by
      obtain ⟨cur, hc⟩ := (h.rowR.tag e').2.2
      rw [hxx] at hc
      cases hc
      exact ht rfl)]
    exact hxx
  refine ⟨a, n, c, w5, hr, ?_, hcc.frozen 4, ⟨hlow, hoth⟩, ?_⟩
  · rw [hcc.cell (by omega)]; rfl
  · exact
      { tabs := fun j hj => by obtain ⟨c', hc⟩ := h.tabs j hj; exact ⟨c', by rw [e2 _ (by omega) (by omega)]; exact hc⟩
        ks := fun j hj => ⟨by rw [ec _ _ (by omega) (by omega)]; exact (h.ks j hj).1, by rw [ec _ _ (by omega) (by omega)]; exact (h.ks j hj).2⟩
        mapR := h.mapR.of_block (e2 _ (by omega) (by omega))
        rsp := by rw [ec _ _ (by omega) (by omega)]; exact h.rsp
        mks := fun j hj => by rw [e2 _ (by omega) (by omega)]; exact h.mks j hj
        cc := (hcc.set 4 (.slice a n c)).congr fun i hi => by
          have : i = 0 ∨ i = 1 ∨ i = 2 ∨ i = 3 ∨ i = 4 ∨ i = 5 ∨ i = 6 ∨ i = 7 ∨ i = 8 ∨ i = 9 ∨ i = 10 ∨ i = 11 := by omega
          rcases this with rfl | rfl | rfl | rfl | rfl | rfl | rfl | rfl | rfl | rfl | rfl | rfl <;> rfl
        rd := h.rd.of_block (e2 _ (by omega) (by omega)), wr := h.wr.of_block (e2 _ (by omega) (by omega)), dm := h.dm.of_block (e2 _ (by omega) (by omega))
        hus := h.hus.of_block (e2 _ (by omega) (by omega)), hru := h.hru.of_block (e2 _ (by omega) (by omega))
        rowR := hrow.of_heap fun x hx' _ => hhi x hx'
        rowW := (h.rowW.keep vr.ownBlock (fun g hg => ⟨h.apart g hg, (h.rowR.tag hg).2.2⟩) (w' := w5) (fun x hx' hne => hx x hx' hne)).of_heap fun x hx' _ => hhi x hx'
        apart := fun x hx' e' => by
          rcases hat with h1 | h1
          · rw [h1] at hx'; exact h.apart x hx' e'
          · rw [h1] at hx'
            cases hx'
            have := (h.rowW.tag e').2.1
            omega
        size := by simp [World.setCell]; omega
        low := Below.setCell (h.low.trans ⟨t2, t1, t3, by omega, fun x hx' => hlow x (by omega)⟩) (by show B ≤ B + 9; omega) _ }

theorem Ls.pushW (h : Ls w W B q fo sn rs ws vr vw GR GW GD us ru) (hl : ws.length ≤ 1024) {j k s rb e : Nat} (hrb : ElB W rb k s) (hbr : B + 15 ≤ rb)
    (he : W.heap[e]? = some (.cells #[.pointer (some ⟨B + j, 0, none⟩), .pointer none, .slice (some ⟨rb, 0, none⟩) 1 1] 110 (0, 0))) :
    ∃ a n c w5, (Builtin.append_ #[96, 96] 96 #[vw, .slice (some ⟨e, 0, none⟩) 1 1]).run Yba.prog W = .ok (.slice a n c) w5 ∧ w5.cell? ⟨B + 9, 5, none⟩ = some vw ∧ w5.frozen? ⟨B + 9, 5, none⟩ = false ∧
      Hid ((∀ x, x < B + 15 → w5.heap[x]? = W.heap[x]?) ∧ ∀ (x : Nat) (arr : Array Value) (t : TypeId), t ≠ 110 → W.heap[x]? = some (Obj.cells arr t (0, 0)) → w5.heap[x]? = some (Obj.cells arr t (0, 0))) ∧ Hid (Ls w (w5.setCell ⟨B + 9, 5, none⟩ (.slice a n c)) B q fo sn rs (ws ++ [(j, k, s)]) vr (.slice a n c) GR GW GD us ru) := by
  have hs := h.size
  obtain ⟨a, n, c, w5, hr, hid⟩ := h.rowW.push hl (by omega) hrb hbr he
  obtain ⟨hrow, hx, hsz, hat, t1, t2, t3⟩ := hid.out
  have hlow : ∀ x, x < B + 15 → w5.heap[x]? = W.heap[x]? := fun x hx' => hx x (by omega) (fun e' => by have := (h.rowW.tag e').1; omega)
  have hcc : Arr w5 (B + 9) 98 12 (cF sn q fo vr vw) := h.cc.of_block (hlow _ (by omega))
  have e2 : ∀ x, x < B + 15 → x ≠ B + 9 → (w5.setCell ⟨B + 9, 5, none⟩ (.slice a n c)).heap[x]? = W.heap[x]? := fun x h1 h2 => (Below.heap_setCell _ _ _ _ h2).trans (hlow x h1)
  have ec : ∀ x o, x < B + 15 → x ≠ B + 9 → (w5.setCell ⟨B + 9, 5, none⟩ (.slice a n c)).cell? ⟨x, o, none⟩ = W.cell? ⟨x, o, none⟩ := fun x o h1 h2 => by simp only [World.cell?, e2 x h1 h2]
  have hhi : ∀ x, B + 15 ≤ x → (w5.setCell ⟨B + 9, 5, none⟩ (.slice a n c)).heap[x]? = w5.heap[x]? := fun x h1 => Below.heap_setCell _ _ _ _ (by show x ≠ B + 9; omega)
  have hoth : ∀ (x : Nat) (arr : Array Value) (t : TypeId), t ≠ 110 → W.heap[x]? = some (Obj.cells arr t (0, 0)) → w5.heap[x]? = some (Obj.cells arr t (0, 0)) := fun x arr t ht hxx => by
    rw [hx x (Array.getElem?_eq_some_iff.1 hxx).1 (fun e' => by
      obtain ⟨cur, hc⟩ := (h.rowW.tag e').2.2
      rw [hxx] at hc
      cases hc
      exact ht rfl)]
    exact hxx
  refine ⟨a, n, c, w5, hr, ?_, hcc.frozen 5, ⟨hlow, hoth⟩, ?_⟩
  · rw [hcc.cell (by omega)]; rfl
  · exact
      { tabs := fun j hj => by obtain ⟨c', hc⟩ := h.tabs j hj; exact ⟨c', by rw [e2 _ (by omega) (by omega)]; exact hc⟩
        ks := fun j hj => ⟨by rw [ec _ _ (by omega) (by omega)]; exact (h.ks j hj).1, by rw [ec _ _ (by omega) (by omega)]; exact (h.ks j hj).2⟩
        mapR := h.mapR.of_block (e2 _ (by omega) (by omega))
        rsp := by rw [ec _ _ (by omega) (by omega)]; exact h.rsp
        mks := fun j hj => by rw [e2 _ (by omega) (by omega)]; exact h.mks j hj
        cc := (hcc.set 5 (.slice a n c)).congr fun i hi => by
          have : i = 0 ∨ i = 1 ∨ i = 2 ∨ i = 3 ∨ i = 4 ∨ i = 5 ∨ i = 6 ∨ i = 7 ∨ i = 8 ∨ i = 9 ∨ i = 10 ∨ i = 11 := by omega
          rcases this with rfl | rfl | rfl | rfl | rfl | rfl | rfl | rfl | rfl | rfl | rfl | rfl <;> rfl
        rd := h.rd.of_block (e2 _ (by omega) (by omega)), wr := h.wr.of_block (e2 _ (by omega) (by omega)), dm := h.dm.of_block (e2 _ (by omega) (by omega))
        hus := h.hus.of_block (e2 _ (by omega) (by omega)), hru := h.hru.of_block (e2 _ (by omega) (by omega))
        rowW := hrow.of_heap fun x hx' _ => hhi x hx'
        rowR := (h.rowR.keep vw.ownBlock (fun g hg => ⟨fun e' => h.apart g e' hg, (h.rowW.tag hg).2.2⟩) (w' := w5) (fun x hx' hne => hx x hx' hne)).of_heap fun x hx' _ => hhi x hx'
        apart := fun x hx' e' => by
          rcases hat with h1 | h1
          · rw [h1] at e'; exact h.apart x hx' e'
          · rw [h1] at e'
            cases e'
            have := (h.rowR.tag hx').2.1
            omega
        size := by simp [World.setCell]; omega
        low := Below.setCell (h.low.trans ⟨t2, t1, t3, by omega, fun x hx' => hlow x (by omega)⟩) (by show B ≤ B + 9; omega) _ }

end Go.Proofs.Ybulkbopq
