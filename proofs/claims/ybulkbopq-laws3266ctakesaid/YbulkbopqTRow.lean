/-
  The rows of ranges that the law hands to take, while they grow.
-/
import Derived.Test.YbulkbopqTModel
namespace Go.Proofs.Ybulkbopq
open Go.RowKit Go.Sort

/-- Block rb holds just the one range of the key k, its place s. -/
def ElB (w : World) (rb k s : Nat) : Prop := w.heap[rb]? = some (.cells #[.bool false, .int .i64 (k : Nat), .slice none 0 0, .bool false, .int .i64 (k : Nat), .slice none 0 0, .bool false, .bool false, .bool false, .bool false, .int .u64 (s : Nat)] 138 (0, 0))
theorem ElB.el {w : World} {rb k s : Nat} (h : ElB w rb k s) : El w rb k s := by
  unfold ElB at h
  refine ⟨⟨?_, ?_, ?_, ?_, ?_, ?_, ?_, ?_, ?_, ?_⟩, ?_⟩ <;> (simp only [World.cell?, h]; rfl)
theorem ElB.of_block {w w' : World} {rb k s : Nat} (h : ElB w rb k s) (hb : w'.heap[rb]? = w.heap[rb]?) : ElB w' rb k s := by
  unfold ElB at *
  rw [hb]
  exact h
theorem ElB.lt {w : World} {rb k s : Nat} (h : ElB w rb k s) : rb < w.heap.size := (Array.getElem?_eq_some_iff.1 h).1

/-- The three cells of an entry: the key space, then the ranges. -/
def t3 (B : Nat) (y : (Nat × Nat × Nat) × Nat) : List Value := [.pointer (some ⟨B + y.1.1, 0, none⟩), .pointer none, .slice (some ⟨y.2, 0, none⟩) 1 1]
def flat3 (B : Nat) (ys : List ((Nat × Nat × Nat) × Nat)) : List Value := ys.flatMap (t3 B)
theorem flat3_len (B : Nat) : ∀ ys : List ((Nat × Nat × Nat) × Nat), (flat3 B ys).length = ys.length * 3
  | [] => rfl
  | y :: r => by
    have : flat3 B (y :: r) = t3 B y ++ flat3 B r := rfl
    rw [this, List.length_append, flat3_len B r, List.length_cons]
    show 3 + _ = _
    omega
theorem flat3_get (B : Nat) : ∀ (ys : List ((Nat × Nat × Nat) × Nat)) (i : Nat) (y : (Nat × Nat × Nat) × Nat) (j : Nat), ys[i]? = some y → j < 3 → (flat3 B ys)[i * 3 + j]? = (t3 B y)[j]?
  | [], i, y, j, h, _ => by simp at h
  | x :: r, 0, y, j, h, hj => by
    simp only [List.getElem?_cons_zero, Option.some.injEq] at h
    subst h
    have : flat3 B (x :: r) = t3 B x ++ flat3 B r := rfl
    rw [this, Nat.zero_mul, Nat.zero_add, List.getElem?_append_left (by show j < 3; exact hj)]
  | x :: r, i + 1, y, j, h, hj => by
    rw [List.getElem?_cons_succ] at h
    have : flat3 B (x :: r) = t3 B x ++ flat3 B r := rfl
    rw [this, List.getElem?_append_right (by show 3 ≤ _; omega), show (i + 1) * 3 + j - (t3 B x).length = i * 3 + j by show (i + 1) * 3 + j - 3 = _; omega]
    exact flat3_get B r i y j h hj

/-- The slice v owns the entries rs, from base on. -/
def RowA (w : World) (B base : Nat) (v : Value) (rs : List (Nat × Nat × Nat)) : Prop :=
  ∃ ys : List ((Nat × Nat × Nat) × Nat), ys.map (·.1) = rs ∧ w.ownsRow base 110 3 v ys.length (flat3 B ys) ∧ ∀ y ∈ ys, base ≤ y.2 ∧ ElB w y.2 y.1.2.1 y.1.2.2

theorem RowA.nil (w : World) (B base : Nat) : RowA w B base (.slice none 0 0) [] := ⟨[], rfl, World.ownsRow_nil _ _ _ _, by simp⟩

theorem RowA.of_heap {w w' : World} {B base : Nat} {v : Value} {rs : List (Nat × Nat × Nat)} (h : RowA w B base v rs) (hb : ∀ x, base ≤ x → x < w.heap.size → w'.heap[x]? = w.heap[x]?) : RowA w' B base v rs := by
  obtain ⟨ys, h1, h2, h3⟩ := h
  refine ⟨ys, h1, ⟨h2.1, ?_⟩, fun y hy => ⟨(h3 y hy).1, (h3 y hy).2.of_block (hb _ (h3 y hy).1 (h3 y hy).2.lt)⟩⟩
  rcases h2.2 with h4 | ⟨g, cap, cur, rfl, hb', hg, r⟩
  · exact .inl h4
  · exact .inr ⟨g, cap, cur, rfl, hb', by rw [hb g hb' (Array.getElem?_eq_some_iff.1 hg).1]; exact hg, r⟩

theorem RowA.shape {w : World} {B base : Nat} {v : Value} {rs : List (Nat × Nat × Nat)} (h : RowA w B base v rs) : ∃ a c, v = .slice a rs.length c := by
  obtain ⟨ys, h1, h2, _⟩ := h
  have hl : ys.length = rs.length := by rw [← h1, List.length_map]
  rcases h2.2 with ⟨rfl, h0⟩ | ⟨g, cap, cur, rfl, _⟩
  · exact ⟨none, 0, by rw [← hl, h0]⟩
  · exact ⟨_, _, by rw [hl]⟩

theorem info110 : ∃ i, Yba.prog.info? 110 = some i ∧ i.zero = some (.agg #[.pointer none, .pointer none, .slice none 0 0]) ∧ i.size = 3 ∧ i.bytes = 40 := by
  have h : (Yba.prog.info? 110).map (fun i => (i.zero, i.size, i.bytes)) = some (some (.agg #[.pointer none, .pointer none, .slice none 0 0]), 3, 40) := by kernel_rfl
  obtain ⟨i, hi, e⟩ := Option.map_eq_some_iff.1 h
  simp only [Prod.mk.injEq] at e
  exact ⟨i, hi, e.1, e.2.1, e.2.2⟩

/-- One entry more: the row's new element lies in block e of W, its range in block rb. -/
theorem RowA.push {W : World} {B base : Nat} {v : Value} {rs : List (Nat × Nat × Nat)} (h : RowA W B base v rs) (hl : rs.length ≤ 1024) (hbase : base ≤ W.heap.size) {j k s rb e : Nat} (hrb : ElB W rb k s) (hbr : base ≤ rb)
    (he : W.heap[e]? = some (.cells #[.pointer (some ⟨B + j, 0, none⟩), .pointer none, .slice (some ⟨rb, 0, none⟩) 1 1] 110 (0, 0))) :
    ∃ a n c w5, (Builtin.append_ #[96, 96] 96 #[v, .slice (some ⟨e, 0, none⟩) 1 1]).run Yba.prog W = .ok (.slice a n c) w5 ∧ Hid (RowA w5 B base (.slice a n c) (rs ++ [(j, k, s)]) ∧ (∀ x, x < W.heap.size → v.ownBlock ≠ some x → w5.heap[x]? = W.heap[x]?) ∧ W.heap.size ≤ w5.heap.size ∧
      ((Value.slice a n c).ownBlock = v.ownBlock ∨ (Value.slice a n c).ownBlock = some W.heap.size) ∧ w5.tape = W.tape ∧ w5.os = W.os ∧ w5.output = W.output) := by
  obtain ⟨ys, h1, h2, h3⟩ := h
  obtain ⟨i, hi, hz, hsz, hby⟩ := info110
  have hlen : ys.length = rs.length := by rw [← h1, List.length_map]
  obtain ⟨v', w5, hr, ho, hg, _, hat⟩ := run_append_own_at (P := Yba.prog) W base 96 96 110 i _ 3 40 Yba.underlying96 hi hz hsz hby rfl (by decide) v _ _ h2 ⟨e, 0, none⟩ 1 1 (t3 B ((j, k, s), rb)) rfl
    (fun c u hc => by
      have hadd : (⟨e, 0, none⟩ : Addr).add c = ⟨e, 0 + c, none⟩ := by unfold Addr.add; split <;> simp_all
      rw [hadd, Nat.zero_add]
      simp only [World.cell?, he]
      have : ((t3 B ((j, k, s), rb)).toArray)[c]? = some u := by simpa using hc
      exact this)
    (fun u hu => by
      simp only [t3, List.mem_cons, List.not_mem_nil, or_false] at hu
      rcases hu with rfl | rfl | rfl <;> rfl)
    (by unfold maxLen; omega) (by omega) hbase
  have hrow : RowA w5 B base v' (rs ++ [(j, k, s)]) := by
    refine ⟨ys ++ [((j, k, s), rb)], by rw [List.map_append, h1]; rfl, ?_, fun y hy => ?_⟩
    · rw [List.length_append]
      have e2 : flat3 B (ys ++ [((j, k, s), rb)]) = flat3 B ys ++ t3 B ((j, k, s), rb) := by simp [flat3]
      rw [e2]
      exact ho
    · have keep : ∀ rb' k' s', ElB W rb' k' s' → ElB w5 rb' k' s' := fun rb' k' s' hel => by
        refine hel.of_block (hg.block rb' hel.lt (fun e' => ?_))
        rcases h2.2 with ⟨rfl, _⟩ | ⟨g, cap, cur, rfl, _, hgg, _⟩
        · simp [Value.ownBlock] at e'
        · have : rb' = g := by simpa [Value.ownBlock] using e'
          unfold ElB at hel
          rw [this, hgg] at hel
          simp at hel
      rcases List.mem_append.1 hy with hy | hy
      · exact ⟨(h3 y hy).1, keep _ _ _ (h3 y hy).2⟩
      · rw [List.mem_singleton] at hy
        subst hy
        exact ⟨hbr, keep _ _ _ hrb⟩
  obtain ⟨a, c, rfl⟩ := hrow.shape
  exact ⟨a, _, c, w5, hr, hrow, fun x hx hne => hg.block x hx (fun e' => hne e'.symm), hg.size, hat, hg.tape, hg.os, hg.output⟩

/-- As take reads it. -/
theorem RowA.rows {w0 : World} {B base : Nat} {v : Value} {rs : List (Nat × Nat × Nat)} {M : Nat → Nat} {mE : Nat} (h : RowA w0 B base v rs) (hok : Ok rs) (hf : ∀ x, base ≤ x → x < w0.heap.size → Fix w0 M mE x) : Rows w0 (fun j => B + j) M mE v rs := by
  obtain ⟨a, c, hv⟩ := h.shape
  obtain ⟨ys, h1, h2, h3⟩ := h
  have hl : ys.length = rs.length := by rw [← h1, List.length_map]
  refine ⟨a, c, hv, fun i j k s hx => ?_⟩
  have hmem := hok _ (List.mem_of_getElem? hx)
  refine ⟨hmem.1, hmem.2, ?_⟩
  have hlt : i < rs.length := (List.getElem?_eq_some_iff.1 hx).1
  obtain ⟨y, hy⟩ : ∃ y, ys[i]? = some y := ⟨_, List.getElem?_eq_getElem (by omega)⟩
  have hy1 : y.1 = (j, k, s) := by
    rw [← h1, List.getElem?_map, hy] at hx
    simpa using hx
  rcases h2.2 with ⟨_, h0⟩ | ⟨g, cap, cur, hv2, hb', hgg, r⟩
  · omega
  have h2' : w0.ownsRow base 110 3 (.slice (some ⟨g, 0, none⟩) ys.length cap) ys.length (flat3 B ys) := by rw [← hv2]; exact h2
  rw [hv] at hv2
  injection hv2 with ea _ _
  have c3' : ∀ m, m < 3 → w0.cell? ⟨g, i * 3 + m, none⟩ = (t3 B y)[m]? := fun m hm => by rw [h2'.cellAt (i * 3 + m) (by omega), flat3_get B ys i y m hy hm]
  have hel := h3 y (List.mem_of_getElem? hy)
  rw [hy1] at hel
  refine ⟨g, y.2, 1, ea, hf g hb' (Array.getElem?_eq_some_iff.1 hgg).1, hf y.2 hel.1 hel.2.lt, ?_, ?_, ?_, hel.2.el⟩
  · have := c3' 0 (by omega)
    rw [Nat.add_zero] at this
    rw [this]
    show some (Value.pointer (some ⟨B + y.1.1, 0, none⟩)) = _
    rw [hy1]
  · exact c3' 1 (by omega)
  · exact c3' 2 (by omega)

end Go.Proofs.Ybulkbopq
