/-
  The law's start: the tables, the marks; then the commit and the models.
-/
import Derived.Test.YbulkbopqTPush
import Derived.Test.YbulkbopqTZero
namespace Go.Proofs.Ybulkbopq
open Go.RowKit Go.Sort

def z78 : Array Value := #[.string ⟨#[]⟩, .slice none 0 0, .int .i64 0, .pointer none, .int .u32 0, .pointer none, .int .i32 0, .int .u32 0, .pointer none, .pointer none, .int .u32 0, .int .i32 0, .int .u32 0, .int .u32 0, .bool false]

/-- While the marks are laid: i of them are there. -/
structure Lm (w W : World) (B i : Nat) : Prop where
  tabs : ∀ j, j < 3 → ∃ c, W.heap[B + j]? = some (.cells c 78 (0, 0))
  ks : ∀ j, j < 3 → W.cell? ⟨B + 3, j * 2, none⟩ = some (.pointer (some ⟨B + j, 0, none⟩)) ∧ W.cell? ⟨B + 3, j * 2 + 1, none⟩ = some (.pointer none)
  mapR : MapK W (fun j => B + j) (B + 4) (fun j => if j < i then some (.pointer (some ⟨B + 6 + j, 0, none⟩)) else none) i
  rsp : W.cell? ⟨B + 5, 6, none⟩ = some (.map (some (B + 4)))
  mks : ∀ j, j < i → W.heap[B + 6 + j]? = some (.cells #[.slice none 0 0, .slice none 0 0, .slice none 0 0, .int .u64 0, .slice none 0 0] 93 (0, 0))
  size : W.heap.size = B + 6 + i
  low : Below B w W

theorem Lm.ofTabs {w W : World} {B i : Nat} (h : Lm w W B i) : Tabs W (fun j => B + j) := ⟨fun a b _ _ e => by have e' : B + a = B + b := e; omega, h.tabs⟩

theorem Lm.drewN {w W : World} {B i : Nat} (h : Lm w W B i) (n : Nat) : Lm w (W.drewN n) B i :=
  ⟨h.tabs, h.ks, h.mapR.of_block rfl, h.rsp, h.mks, h.size, h.low.trans (((Gr.refl W).drewN n).below (by have := h.size; omega))⟩

/-- One mark more. -/
theorem Lm.step {w W : World} {B i : Nat} (h : Lm w W B i) (hi : i < 3) (Wx : World) (hh : Wx.heap = W.heap.push (.cells #[.slice none 0 0, .slice none 0 0, .slice none 0 0, .int .u64 0, .slice none 0 0] 93)) (e1 : Wx.tape = W.tape) (e2 : Wx.os = W.os) (e3 : Wx.output = W.output) :
    ∃ w', (Instr.mapUpdate 84 (.map (some (B + 4))) (.agg #[.pointer (some ⟨B + i, 0, none⟩), .pointer none]) (.pointer (some ⟨W.heap.size, 0, none⟩))).run Yba.prog Wx = .ok () w' ∧ Hid (Lm w w' B (i + 1)) := by
  have hsz := h.size
  have hold : ∀ x, x < W.heap.size → Wx.heap[x]? = W.heap[x]? := fun x hx => by rw [hh, Array.getElem?_push, if_neg (by omega)]
  have hnew : Wx.heap[W.heap.size]? = some (.cells #[.slice none 0 0, .slice none 0 0, .slice none 0 0, .int .u64 0, .slice none 0 0] 93) := by rw [hh, Array.getElem?_push, if_pos rfl]
  have hxs : Wx.heap.size = W.heap.size + 1 := by rw [hh]; simp
  have tx : Tabs Wx (fun j => B + j) := ⟨h.ofTabs.1, fun j hj => by obtain ⟨c, hc⟩ := h.tabs j hj; exact ⟨c, by show Wx.heap[B + j]? = _; rw [hold _ (by omega)]; exact hc⟩⟩
  have hm := h.mapR.of_block (hold (B + 4) (by omega))
  obtain ⟨w', hrun, hm', hx', hs', t1, t2, t3⟩ := hm.update tx Yba.underlying84 hi (.pointer (some ⟨W.heap.size, 0, none⟩))
  have hnn : (if i < i then some (Value.pointer (some ⟨B + 6 + i, 0, none⟩)) else none).isSome = false := by simp
  rw [if_neg (by rw [hnn]; simp)] at hm'
  have e : ∀ x, x < W.heap.size → x ≠ B + 4 → w'.heap[x]? = W.heap[x]? := fun x h1 h2 => (hx' x h2).trans (hold x h1)
  have ec : ∀ x o, x < W.heap.size → x ≠ B + 4 → w'.cell? ⟨x, o, none⟩ = W.cell? ⟨x, o, none⟩ := fun x o h1 h2 => by simp only [World.cell?, e x h1 h2]
  refine ⟨w', hrun, ?_⟩
  exact
    { tabs := fun j hj => by obtain ⟨c, hc⟩ := h.tabs j hj; exact ⟨c, by rw [e _ (by omega) (by omega)]; exact hc⟩
      ks := fun j hj => ⟨by rw [ec _ _ (by omega) (by omega)]; exact (h.ks j hj).1, by rw [ec _ _ (by omega) (by omega)]; exact (h.ks j hj).2⟩
      mapR := by
        have ef : kput (fun j => if j < i then some (.pointer (some ⟨B + 6 + j, 0, none⟩)) else none) i (.pointer (some ⟨W.heap.size, 0, none⟩)) = (fun j => if j < i + 1 then some (.pointer (some ⟨B + 6 + j, 0, none⟩)) else none) := by
          funext j
          unfold kput
          by_cases hj : j = i
          · subst hj; simp [hsz]
          · by_cases hj2 : j < i
            · simp [hj, hj2, show j < i + 1 by omega]
            · simp [hj, hj2, show ¬ j < i + 1 by omega]
        rw [ef] at hm'
        exact hm'
      rsp := by rw [ec _ _ (by omega) (by omega)]; exact h.rsp
      mks := fun j hj => by
        by_cases hj2 : j < i
        · rw [e _ (by omega) (by omega)]; exact h.mks j hj2
        · have hje : B + 6 + j = W.heap.size := by omega
          rw [hje, hx' _ (by omega)]
          exact hnew
      size := by omega
      low := h.low.trans ⟨by rw [t2, e2], by rw [t1, e1], by rw [t3, e3], by omega, fun x hx => e x (by omega) (by omega)⟩ }

theorem push_at (h : Array Obj) (o : Obj) (n : Nat) (hn : n = h.size) : (h.push o)[n]? = some o := by subst hn; simp
theorem push_old (h : Array Obj) (o : Obj) (n : Nat) (hn : n < h.size) : (h.push o)[n]? = h[n]? := by rw [Array.getElem?_push, if_neg (by omega)]

theorem Lm.start (w : World) (B : Nat) (hB : w.heap.size = B) (W : World)
    (hh : W.heap = (((((w.heap.push (.cells z78 78)).push (.cells z78 78)).push (.cells z78 78)).push (.cells #[.pointer (some ⟨B, 0, none⟩), .pointer none, .pointer (some ⟨B + 1, 0, none⟩), .pointer none, .pointer (some ⟨B + 1 + 1, 0, none⟩), .pointer none] 82)).push (.map #[] 0)).push
      (.cells #[.int .i32 0, .int .u32 0, .int .u64 0, .int .u64 0, .slice none 0 0, .slice none 0 0, .map (some (B + 1 + 1 + 1 + 1))] 88)) (e1 : W.tape = w.tape) (e2 : W.os = w.os) (e3 : W.output = w.output) : Lm w W B 0 := by
  subst hB
  have g0 : W.heap[w.heap.size + 0]? = some (.cells z78 78) := by rw [hh, push_old _ _ _ (by simp <;> omega), push_old _ _ _ (by simp <;> omega), push_old _ _ _ (by simp <;> omega), push_old _ _ _ (by simp <;> omega), push_old _ _ _ (by simp <;> omega)]; exact push_at _ _ _ (by simp)
  have g1 : W.heap[w.heap.size + 1]? = some (.cells z78 78) := by rw [hh, push_old _ _ _ (by simp <;> omega), push_old _ _ _ (by simp <;> omega), push_old _ _ _ (by simp <;> omega), push_old _ _ _ (by simp <;> omega)]; exact push_at _ _ _ (by simp)
  have g2 : W.heap[w.heap.size + 2]? = some (.cells z78 78) := by rw [hh, push_old _ _ _ (by simp <;> omega), push_old _ _ _ (by simp <;> omega), push_old _ _ _ (by simp <;> omega)]; exact push_at _ _ _ (by simp)
  have g3 : W.heap[w.heap.size + 3]? = some (.cells #[.pointer (some ⟨w.heap.size, 0, none⟩), .pointer none, .pointer (some ⟨w.heap.size + 1, 0, none⟩), .pointer none, .pointer (some ⟨w.heap.size + 1 + 1, 0, none⟩), .pointer none] 82) := by rw [hh, push_old _ _ _ (by simp <;> omega), push_old _ _ _ (by simp <;> omega)]; exact push_at _ _ _ (by simp)
  have g4 : W.heap[w.heap.size + 4]? = some (.map #[] 0) := by rw [hh, push_old _ _ _ (by simp <;> omega)]; exact push_at _ _ _ (by simp)
  have g5 : W.heap[w.heap.size + 5]? = some (.cells #[.int .i32 0, .int .u32 0, .int .u64 0, .int .u64 0, .slice none 0 0, .slice none 0 0, .map (some (w.heap.size + 1 + 1 + 1 + 1))] 88) := by rw [hh]; exact push_at _ _ _ (by simp)
  have three : ∀ j, j < 3 → j = 0 ∨ j = 1 ∨ j = 2 := fun j hj => by omega
  refine ⟨fun j hj => ?_, fun j hj => ?_, ⟨#[], 0, g4, rfl, by simp, by simp, by simp⟩, ?_, fun j hj => by omega, by rw [hh]; simp, ⟨e2, e1, e3, by rw [hh]; simp; omega, fun x hx => ?_⟩⟩
  · rcases three j hj with rfl | rfl | rfl
    · exact ⟨_, g0⟩
    · exact ⟨_, g1⟩
    · exact ⟨_, g2⟩
  · rcases three j hj with rfl | rfl | rfl <;> (simp only [World.cell?, g3]; exact ⟨rfl, rfl⟩)
  · simp only [World.cell?, g5]
    rfl
  · rw [hh, push_old _ _ _ (by simp; omega), push_old _ _ _ (by simp; omega), push_old _ _ _ (by simp; omega), push_old _ _ _ (by simp; omega), push_old _ _ _ (by simp; omega), push_old _ _ _ hx]

theorem arr_zM {w : World} {b : Nat} (h : w.heap[b]? = some (.cells zM 104 (0, 0))) : Arr w b 104 1536 (modF fun _ _ => none) := by
  refine ⟨zM, h, by simp [zM], fun c hc => ?_⟩
  rw [modF_zero]
  unfold zM
  rw [Array.getElem?_append, Array.size_replicate]
  by_cases h1 : c < 768
  · rw [if_pos h1, if_pos h1, Array.getElem?_replicate, if_pos h1]
  · rw [if_neg h1, if_neg h1, Array.getElem?_replicate, if_pos (by omega)]

/-- The commit, the models and the flags, all empty. -/
theorem Ls.start {w W : World} {B : Nat} (h : Lm w W B 3) (q : Nat) (fo : Bool) (sn : Value) (Wx : World)
    (hh : Wx.heap = (((((W.heap.push (.cells #[sn, .int .u64 (q : Nat), .bool false, .pointer none, .slice none 0 0, .slice none 0 0, .slice none 0 0, .slice none 0 0, .int .u64 0, .int .u64 0, .bool false, .bool fo] 98)).push (.cells zM 104)).push (.cells zM 104)).push (.cells zM 104)).push
      (.cells #[.bool false, .bool false, .bool false] 105)).push (.cells #[.bool false, .bool false, .bool false] 105)) (e1 : Wx.tape = W.tape) (e2 : Wx.os = W.os) (e3 : Wx.output = W.output) :
    Ls w Wx B q fo sn [] [] (.slice none 0 0) (.slice none 0 0) (fun _ _ => none) (fun _ _ => none) (fun _ _ => none) (fun _ => false) (fun _ => false) := by
  have hs := h.size
  have g0 : Wx.heap[B + 9]? = some (.cells #[sn, .int .u64 (q : Nat), .bool false, .pointer none, .slice none 0 0, .slice none 0 0, .slice none 0 0, .slice none 0 0, .int .u64 0, .int .u64 0, .bool false, .bool fo] 98) := by
    rw [hh, push_old _ _ _ (by simp; omega), push_old _ _ _ (by simp; omega), push_old _ _ _ (by simp; omega), push_old _ _ _ (by simp; omega), push_old _ _ _ (by simp; omega)]; exact push_at _ _ _ (by omega)
  have g1 : Wx.heap[B + 10]? = some (.cells zM 104) := by rw [hh, push_old _ _ _ (by simp; omega), push_old _ _ _ (by simp; omega), push_old _ _ _ (by simp; omega), push_old _ _ _ (by simp; omega)]; exact push_at _ _ _ (by simp; omega)
  have g2 : Wx.heap[B + 11]? = some (.cells zM 104) := by rw [hh, push_old _ _ _ (by simp; omega), push_old _ _ _ (by simp; omega), push_old _ _ _ (by simp; omega)]; exact push_at _ _ _ (by simp; omega)
  have g3 : Wx.heap[B + 12]? = some (.cells zM 104) := by rw [hh, push_old _ _ _ (by simp; omega), push_old _ _ _ (by simp; omega)]; exact push_at _ _ _ (by simp; omega)
  have g4 : Wx.heap[B + 13]? = some (.cells #[.bool false, .bool false, .bool false] 105) := by rw [hh, push_old _ _ _ (by simp; omega)]; exact push_at _ _ _ (by simp; omega)
  have g5 : Wx.heap[B + 14]? = some (.cells #[.bool false, .bool false, .bool false] 105) := by rw [hh]; exact push_at _ _ _ (by simp; omega)
  have hold : ∀ x, x < W.heap.size → Wx.heap[x]? = W.heap[x]? := fun x hx => by
    rw [hh, push_old _ _ _ (by simp; omega), push_old _ _ _ (by simp; omega), push_old _ _ _ (by simp; omega), push_old _ _ _ (by simp; omega), push_old _ _ _ (by simp; omega), push_old _ _ _ hx]
  have hc : ∀ x o, x < W.heap.size → Wx.cell? ⟨x, o, none⟩ = W.cell? ⟨x, o, none⟩ := fun x o hx => by simp only [World.cell?, hold x hx]
  have b3 : ∀ b, Wx.heap[b]? = some (.cells #[.bool false, .bool false, .bool false] 105) → Arr Wx b 105 3 (fun _ => .bool false) := fun b hb =>
    ⟨_, hb, rfl, fun c hc => by
      have : c = 0 ∨ c = 1 ∨ c = 2 := by omega
      rcases this with rfl | rfl | rfl <;> rfl⟩
  have hm := h.mapR.of_block (hold (B + 4) (by omega))
  exact
    { tabs := fun j hj => by obtain ⟨c, hcc⟩ := h.tabs j hj; exact ⟨c, by rw [hold _ (by omega)]; exact hcc⟩
      ks := fun j hj => ⟨by rw [hc _ _ (by omega)]; exact (h.ks j hj).1, by rw [hc _ _ (by omega)]; exact (h.ks j hj).2⟩
      mapR := by
        obtain ⟨es, clock, m1, m2, m3, m4, m5⟩ := hm
        refine ⟨es, clock, m1, m2, fun x hx => ?_, fun j v hj _ => ?_, m5⟩
        · obtain ⟨j, hj, he, hv⟩ := m3 x hx
          exact ⟨j, hj, he, (if_pos hj).symm.trans hv⟩
        · exact m4 j _ hj (if_pos hj)
      rsp := by rw [hc _ _ (by omega)]; exact h.rsp
      mks := fun j hj => by rw [hold _ (by omega)]; exact h.mks j hj
      cc := ⟨_, g0, rfl, fun c hc => by
        have : c = 0 ∨ c = 1 ∨ c = 2 ∨ c = 3 ∨ c = 4 ∨ c = 5 ∨ c = 6 ∨ c = 7 ∨ c = 8 ∨ c = 9 ∨ c = 10 ∨ c = 11 := by omega
        rcases this with rfl | rfl | rfl | rfl | rfl | rfl | rfl | rfl | rfl | rfl | rfl | rfl <;> rfl⟩
      rd := arr_zM g1, wr := arr_zM g2, dm := arr_zM g3, hus := b3 _ g4, hru := b3 _ g5
      rowR := RowA.nil _ _ _, rowW := RowA.nil _ _ _
      apart := fun x hx => by simp [Value.ownBlock] at hx
      size := by rw [hh]; simp; omega
      low := h.low.trans ⟨e2, e1, e3, by rw [hh]; simp; omega, fun x hx => hold x (by omega)⟩ }

end Go.Proofs.Ybulkbopq
