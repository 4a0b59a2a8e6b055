/-
  What stands while the law lays its two rows and its models.
-/
import Derived.Test.YbulkbopqTRow
namespace Go.Proofs.Ybulkbopq
open Go.RowKit Go.Sort

/-- The commit's cells. -/
def cF (sn : Value) (q : Nat) (fo : Bool) (vr vw : Value) (c : Nat) : Value :=
  ([sn, .int .u64 (q : Nat), .bool false, .pointer none, vr, vw, .slice none 0 0, .slice none 0 0, .int .u64 0, .int .u64 0, .bool false, .bool fo] : List Value).getD c undef

structure Ls (w W : World) (B q : Nat) (fo : Bool) (sn : Value) (rs ws : List (Nat × Nat × Nat)) (vr vw : Value) (GR GW GD : Nat → Nat → Option Nat) (us ru : Nat → Bool) : Prop where
  tabs : ∀ j, j < 3 → ∃ c, W.heap[B + j]? = some (.cells c 78 (0, 0))
  ks : ∀ j, j < 3 → W.cell? ⟨B + 3, j * 2, none⟩ = some (.pointer (some ⟨B + j, 0, none⟩)) ∧ W.cell? ⟨B + 3, j * 2 + 1, none⟩ = some (.pointer none)
  mapR : MapK W (fun j => B + j) (B + 4) (fun j => some (.pointer (some ⟨B + 6 + j, 0, none⟩))) 3
  rsp : W.cell? ⟨B + 5, 6, none⟩ = some (.map (some (B + 4)))
  mks : ∀ j, j < 3 → W.heap[B + 6 + j]? = some (.cells #[.slice none 0 0, .slice none 0 0, .slice none 0 0, .int .u64 0, .slice none 0 0] 93 (0, 0))
  cc : Arr W (B + 9) 98 12 (cF sn q fo vr vw)
  rd : Arr W (B + 10) 104 1536 (modF GR)
  wr : Arr W (B + 11) 104 1536 (modF GW)
  dm : Arr W (B + 12) 104 1536 (modF GD)
  hus : Arr W (B + 13) 105 3 (fun j => .bool (us j))
  hru : Arr W (B + 14) 105 3 (fun j => .bool (ru j))
  rowR : RowA W B (B + 15) vr rs
  rowW : RowA W B (B + 15) vw ws
  apart : ∀ x, vr.ownBlock = some x → vw.ownBlock ≠ some x
  size : B + 15 ≤ W.heap.size
  low : Below B w W

variable {w W W' : World} {B q : Nat} {fo : Bool} {sn : Value} {rs ws : List (Nat × Nat × Nat)} {vr vw : Value} {GR GW GD : Nat → Nat → Option Nat} {us ru : Nat → Bool}

theorem Ls.gr (h : Ls w W B q fo sn rs ws vr vw GR GW GD us ru) (g : Gr W W') : Ls w W' B q fo sn rs ws vr vw GR GW GD us ru := by
  have hs := h.size
  have e : ∀ x, x < B + 15 → W'.heap[x]? = W.heap[x]? := fun x hx => g.block (by omega)
  exact
    { tabs := fun j hj => by obtain ⟨c, hc⟩ := h.tabs j hj; exact ⟨c, by rw [e _ (by omega)]; exact hc⟩
      ks := fun j hj => ⟨g.cell_of (h.ks j hj).1, g.cell_of (h.ks j hj).2⟩
      mapR := h.mapR.of_block (e _ (by omega))
      rsp := g.cell_of h.rsp
      mks := fun j hj => by rw [e _ (by omega)]; exact h.mks j hj
      cc := h.cc.of_block (e _ (by omega))
      rd := h.rd.of_block (e _ (by omega))
      wr := h.wr.of_block (e _ (by omega))
      dm := h.dm.of_block (e _ (by omega))
      hus := h.hus.of_block (e _ (by omega))
      hru := h.hru.of_block (e _ (by omega))
      rowR := h.rowR.of_heap fun x _ hx => g.block hx
      rowW := h.rowW.of_heap fun x _ hx => g.block hx
      apart := h.apart
      size := by have := g.size; omega
      low := h.low.trans (g.below (by omega)) }

/-- A cell of one of the blocks from B + 9 to B + 14 set: all else stands. -/
theorem Ls.others (h : Ls w W B q fo sn rs ws vr vw GR GW GD us ru) {b : Nat} (hb : B + 9 ≤ b ∧ b < B + 15) (c : Nat) (u : Value) (cc' : Arr (W.setCell ⟨b, c, none⟩ u) (B + 9) 98 12 (cF sn q fo vr vw)) {GR' GW' GD' : Nat → Nat → Option Nat} {us' ru' : Nat → Bool}
    (rd' : Arr (W.setCell ⟨b, c, none⟩ u) (B + 10) 104 1536 (modF GR')) (wr' : Arr (W.setCell ⟨b, c, none⟩ u) (B + 11) 104 1536 (modF GW')) (dm' : Arr (W.setCell ⟨b, c, none⟩ u) (B + 12) 104 1536 (modF GD'))
    (us1 : Arr (W.setCell ⟨b, c, none⟩ u) (B + 13) 105 3 (fun j => .bool (us' j))) (ru1 : Arr (W.setCell ⟨b, c, none⟩ u) (B + 14) 105 3 (fun j => .bool (ru' j))) : Ls w (W.setCell ⟨b, c, none⟩ u) B q fo sn rs ws vr vw GR' GW' GD' us' ru' := by
  have e : ∀ x, x ≠ b → (W.setCell ⟨b, c, none⟩ u).heap[x]? = W.heap[x]? := fun x hx => Below.heap_setCell _ _ _ _ hx
  have ec : ∀ x o, x ≠ b → (W.setCell ⟨b, c, none⟩ u).cell? ⟨x, o, none⟩ = W.cell? ⟨x, o, none⟩ := fun x o hx => by simp only [World.cell?, e x hx]
  exact
    { tabs := fun j hj => by obtain ⟨c', hc⟩ := h.tabs j hj; exact ⟨c', by rw [e _ (by omega)]; exact hc⟩
      ks := fun j hj => ⟨by rw [ec _ _ (by omega)]; exact (h.ks j hj).1, by rw [ec _ _ (by omega)]; exact (h.ks j hj).2⟩
      mapR := h.mapR.of_block (e _ (by omega))
      rsp := by rw [ec _ _ (by omega)]; exact h.rsp
      mks := fun j hj => by rw [e _ (by omega)]; exact h.mks j hj
      cc := cc', rd := rd', wr := wr', dm := dm', hus := us1, hru := ru1
      rowR := h.rowR.of_heap fun x hx _ => e x (by omega)
      rowW := h.rowW.of_heap fun x hx _ => e x (by omega)
      apart := h.apart
      size := by have := h.size; simpa [World.setCell] using this
      low := h.low.setCell (by show B ≤ b; omega) u }

theorem Ls.setUs (h : Ls w W B q fo sn rs ws vr vw GR GW GD us ru) {j : Nat} (_hj : j < 3) : Ls w (W.setCell ⟨B + 13, j, none⟩ (.bool true)) B q fo sn rs ws vr vw GR GW GD (fun i => if i = j then true else us i) ru :=
  h.others (by omega) _ _ (h.cc.set_other (by show B + 9 ≠ B + 13; omega) _) (h.rd.set_other (by show B + 10 ≠ B + 13; omega) _) (h.wr.set_other (by show B + 11 ≠ B + 13; omega) _) (h.dm.set_other (by show B + 12 ≠ B + 13; omega) _)
    ((h.hus.set j (.bool true)).congr fun c _ => by
      by_cases e : c = j
      · subst e; rw [fupd_same, if_pos rfl]
      · rw [fupd_other _ _ e, if_neg e]) (h.hru.set_other (by show B + 14 ≠ B + 13; omega) _)
theorem Ls.setRu (h : Ls w W B q fo sn rs ws vr vw GR GW GD us ru) {j : Nat} (_hj : j < 3) : Ls w (W.setCell ⟨B + 14, j, none⟩ (.bool true)) B q fo sn rs ws vr vw GR GW GD us (fun i => if i = j then true else ru i) :=
  h.others (by omega) _ _ (h.cc.set_other (by show B + 9 ≠ B + 14; omega) _) (h.rd.set_other (by show B + 10 ≠ B + 14; omega) _) (h.wr.set_other (by show B + 11 ≠ B + 14; omega) _) (h.dm.set_other (by show B + 12 ≠ B + 14; omega) _)
    (h.hus.set_other (by show B + 13 ≠ B + 14; omega) _)
    ((h.hru.set j (.bool true)).congr fun c _ => by
      by_cases e : c = j
      · subst e; rw [fupd_same, if_pos rfl]
      · rw [fupd_other _ _ e, if_neg e])

/-- An entry more in the model of the reads: its flag, then its place. -/
theorem Ls.putR (h : Ls w W B q fo sn rs ws vr vw GR GW GD us ru) {j k s : Nat} (hj : j < 3) (hk : k < 256) :
    Ls w ((W.setCell ⟨B + 10, j * 256 + k, none⟩ (.bool true)).setCell ⟨B + 10, 768 + j * 256 + k, none⟩ (.int .u64 (max ((GR j k).getD 0) (max q s) : Nat))) B q fo sn rs ws vr vw (mstep max q GR (j, k, s)) GW GD us ru := by
  have o9 : B + 9 ≠ B + 10 := by omega
  have o11 : B + 11 ≠ B + 10 := by omega
  have o12 : B + 12 ≠ B + 10 := by omega
  have o13 : B + 13 ≠ B + 10 := by omega
  have o14 : B + 14 ≠ B + 10 := by omega
  have a1 := h.rd.set (j * 256 + k) (.bool true)
  have e : ∀ x, x ≠ B + 10 → ((W.setCell ⟨B + 10, j * 256 + k, none⟩ (.bool true)).setCell ⟨B + 10, 768 + j * 256 + k, none⟩ (.int .u64 (max ((GR j k).getD 0) (max q s) : Nat))).heap[x]? = W.heap[x]? := fun x hx => by
    rw [Below.heap_setCell _ _ _ _ hx, Below.heap_setCell _ _ _ _ hx]
  have ec : ∀ x o, x ≠ B + 10 → ((W.setCell ⟨B + 10, j * 256 + k, none⟩ (.bool true)).setCell ⟨B + 10, 768 + j * 256 + k, none⟩ (.int .u64 (max ((GR j k).getD 0) (max q s) : Nat))).cell? ⟨x, o, none⟩ = W.cell? ⟨x, o, none⟩ := fun x o hx => by simp only [World.cell?, e x hx]
  exact
    { tabs := fun j hj => by obtain ⟨c', hc⟩ := h.tabs j hj; exact ⟨c', by rw [e _ (by omega)]; exact hc⟩
      ks := fun j hj => ⟨by rw [ec _ _ (by omega)]; exact (h.ks j hj).1, by rw [ec _ _ (by omega)]; exact (h.ks j hj).2⟩
      mapR := h.mapR.of_block (e _ (by omega))
      rsp := by rw [ec _ _ (by omega)]; exact h.rsp
      mks := fun j hj => by rw [e _ (by omega)]; exact h.mks j hj
      cc := h.cc.of_block (e _ o9)
      rd := (a1.set _ _).congr fun c hc => modF_put max (fun x => by omega) q GR j k s hj hk c hc
      wr := h.wr.of_block (e _ o11), dm := h.dm.of_block (e _ o12), hus := h.hus.of_block (e _ o13), hru := h.hru.of_block (e _ o14)
      rowR := h.rowR.of_heap fun x hx _ => e x (by omega)
      rowW := h.rowW.of_heap fun x hx _ => e x (by omega)
      apart := h.apart
      size := by have := h.size; simpa [World.setCell] using this
      low := (h.low.setCell (by show B ≤ B + 10; omega) _).setCell (by show B ≤ B + 10; omega) _ }
/-- .. of the writes. -/
theorem Ls.putW (h : Ls w W B q fo sn rs ws vr vw GR GW GD us ru) {j k s : Nat} (hj : j < 3) (hk : k < 256) :
    Ls w ((W.setCell ⟨B + 11, j * 256 + k, none⟩ (.bool true)).setCell ⟨B + 11, 768 + j * 256 + k, none⟩ (.int .u64 (early ((GW j k).getD 0) (early q s) : Nat))) B q fo sn rs ws vr vw GR (mstep early q GW (j, k, s)) GD us ru := by
  have a1 := h.wr.set (j * 256 + k) (.bool true)
  have e : ∀ x, x ≠ B + 11 → ((W.setCell ⟨B + 11, j * 256 + k, none⟩ (.bool true)).setCell ⟨B + 11, 768 + j * 256 + k, none⟩ (.int .u64 (early ((GW j k).getD 0) (early q s) : Nat))).heap[x]? = W.heap[x]? := fun x hx => by
    rw [Below.heap_setCell _ _ _ _ hx, Below.heap_setCell _ _ _ _ hx]
  have ec : ∀ x o, x ≠ B + 11 → ((W.setCell ⟨B + 11, j * 256 + k, none⟩ (.bool true)).setCell ⟨B + 11, 768 + j * 256 + k, none⟩ (.int .u64 (early ((GW j k).getD 0) (early q s) : Nat))).cell? ⟨x, o, none⟩ = W.cell? ⟨x, o, none⟩ := fun x o hx => by simp only [World.cell?, e x hx]
  exact
    { tabs := fun j hj => by obtain ⟨c', hc⟩ := h.tabs j hj; exact ⟨c', by rw [e _ (by omega)]; exact hc⟩
      ks := fun j hj => ⟨by rw [ec _ _ (by omega)]; exact (h.ks j hj).1, by rw [ec _ _ (by omega)]; exact (h.ks j hj).2⟩
      mapR := h.mapR.of_block (e _ (by omega))
      rsp := by rw [ec _ _ (by omega)]; exact h.rsp
      mks := fun j hj => by rw [e _ (by omega)]; exact h.mks j hj
      cc := h.cc.of_block (e _ (by omega)), rd := h.rd.of_block (e _ (by omega))
      wr := (a1.set _ _).congr fun c hc => modF_put early (fun x => by simp [early]) q GW j k s hj hk c hc
      dm := h.dm.of_block (e _ (by omega)), hus := h.hus.of_block (e _ (by omega)), hru := h.hru.of_block (e _ (by omega))
      rowR := h.rowR.of_heap fun x hx _ => e x (by omega)
      rowW := h.rowW.of_heap fun x hx _ => e x (by omega)
      apart := h.apart
      size := by have := h.size; simpa [World.setCell] using this
      low := (h.low.setCell (by show B ≤ B + 11; omega) _).setCell (by show B ≤ B + 11; omega) _ }
/-- .. of the dooming writes. -/
theorem Ls.putD (h : Ls w W B q fo sn rs ws vr vw GR GW GD us ru) {j k s : Nat} (hj : j < 3) (hk : k < 256) :
    Ls w ((W.setCell ⟨B + 12, j * 256 + k, none⟩ (.bool true)).setCell ⟨B + 12, 768 + j * 256 + k, none⟩ (.int .u64 (max ((GD j k).getD 0) (max q s) : Nat))) B q fo sn rs ws vr vw GR GW (mstep max q GD (j, k, s)) us ru := by
  have a1 := h.dm.set (j * 256 + k) (.bool true)
  have e : ∀ x, x ≠ B + 12 → ((W.setCell ⟨B + 12, j * 256 + k, none⟩ (.bool true)).setCell ⟨B + 12, 768 + j * 256 + k, none⟩ (.int .u64 (max ((GD j k).getD 0) (max q s) : Nat))).heap[x]? = W.heap[x]? := fun x hx => by
    rw [Below.heap_setCell _ _ _ _ hx, Below.heap_setCell _ _ _ _ hx]
  have ec : ∀ x o, x ≠ B + 12 → ((W.setCell ⟨B + 12, j * 256 + k, none⟩ (.bool true)).setCell ⟨B + 12, 768 + j * 256 + k, none⟩ (.int .u64 (max ((GD j k).getD 0) (max q s) : Nat))).cell? ⟨x, o, none⟩ = W.cell? ⟨x, o, none⟩ := fun x o hx => by simp only [World.cell?, e x hx]
  exact
    { tabs := fun j hj => by obtain ⟨c', hc⟩ := h.tabs j hj; exact ⟨c', by rw [e _ (by omega)]; exact hc⟩
      ks := fun j hj => ⟨by rw [ec _ _ (by omega)]; exact (h.ks j hj).1, by rw [ec _ _ (by omega)]; exact (h.ks j hj).2⟩
      mapR := h.mapR.of_block (e _ (by omega))
      rsp := by rw [ec _ _ (by omega)]; exact h.rsp
      mks := fun j hj => by rw [e _ (by omega)]; exact h.mks j hj
      cc := h.cc.of_block (e _ (by omega)), rd := h.rd.of_block (e _ (by omega)), wr := h.wr.of_block (e _ (by omega))
      dm := (a1.set _ _).congr fun c hc => modF_put max (fun x => by omega) q GD j k s hj hk c hc
      hus := h.hus.of_block (e _ (by omega)), hru := h.hru.of_block (e _ (by omega))
      rowR := h.rowR.of_heap fun x hx _ => e x (by omega)
      rowW := h.rowW.of_heap fun x hx _ => e x (by omega)
      apart := h.apart
      size := by have := h.size; simpa [World.setCell] using this
      low := (h.low.setCell (by show B ≤ B + 12; omega) _).setCell (by show B ≤ B + 12; omega) _ }

end Go.Proofs.Ybulkbopq
