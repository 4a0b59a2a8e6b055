/-
  rangeSet.add at a key that stands in the set with another place.
-/
import Derived.Test.YbulkbopqTAdd
import Derived.Deep.MidRow
namespace Go.Proofs.Ybulkbopq
open Go.RowKit Go.Sort

theorem setCell_self {w : World} {b o : Nat} {v : Value} (h : w.cell? ⟨b, o, none⟩ = some v) : w.setCell ⟨b, o, none⟩ v = w := by
  have e : (w.setCell ⟨b, o, none⟩ v).heap = w.heap := by
    apply Array.ext_getElem?
    intro x
    by_cases hx : x = b
    · subst hx; exact set_self h
    · exact Below.heap_setCell _ _ _ _ hx
  have : w.setCell ⟨b, o, none⟩ v = { w with heap := (w.setCell ⟨b, o, none⟩ v).heap } := rfl
  rw [this, e]
theorem setCells_self (w : World) (b : Nat) : ∀ (o : Nat) (cs : List Value), (∀ j, j < cs.length → w.cell? ⟨b, o + j, none⟩ = cs[j]?) → w.setCells b o cs = w
  | _, [], _ => rfl
  | o, v :: r, h => by
    have h0 := h 0 (by simp)
    rw [Nat.add_zero, List.getElem?_cons_zero] at h0
    rw [World.setCells, setCell_self h0]
    exact setCells_self w b (o + 1) r fun j hj => by
      have := h (j + 1) (by simp; omega)
      rw [List.getElem?_cons_succ] at this
      rw [← this]
      congr 2
      omega
theorem setCell_block {w W : World} {b o : Nat} {v : Value} (h : W.heap[b]? = w.heap[b]?) : (W.setCell ⟨b, o, none⟩ v).heap[b]? = (w.setCell ⟨b, o, none⟩ v).heap[b]? := by
  simp only [World.setCell, Array.getElem?_modify, if_pos, h]

/-- What add leaves. -/
structure Out (w W : World) (sb so : Nat) (v v' : Value) (xs' : List (Nat × Nat)) : Prop where
  blk : W.heap[sb]? = (w.setCell ⟨sb, so, none⟩ v').heap[sb]?
  own : Own W v' xs'
  at' : v'.ownBlock = v.ownBlock ∨ ∃ x, v'.ownBlock = some x ∧ w.heap.size ≤ x
  chg : Chg w W (fun x => x = sb ∨ v.ownBlock = some x)
theorem Out.setCell {w W : World} {sb so : Nat} {v v' : Value} {xs' : List (Nat × Nat)} (h : Out w W sb so v v' xs') {x : Nat} (hx : w.heap.size ≤ x) (hne : v'.ownBlock ≠ some x) (sl : sb < w.heap.size) (o : Nat) (u : Value) :
    Out w (W.setCell ⟨x, o, none⟩ u) sb so v v' xs' := by
  have e : ∀ y, y ≠ x → (W.setCell ⟨x, o, none⟩ u).heap[y]? = W.heap[y]? := fun y hy => Below.heap_setCell _ _ _ _ hy
  exact ⟨by rw [e sb (by omega)]; exact h.blk, h.own.of_heap fun g hg => e g (fun e' => hne (by rw [hg, e'])), h.at', h.chg.1, h.chg.2.1, h.chg.2.2.1, by simpa [World.setCell] using h.chg.2.2.2.1,
    fun y hy hn => by rw [e y (by omega)]; exact h.chg.2.2.2.2 y hy hn⟩

theorem wpList_store_to {P : Program} {ops : Array Oper} {rest : List Oper} {op : Oper} {a : Act} {w : World} {Q : Exit → Act → World → Prop} (hgd : op.guard = none) (ty : TypeId) (x y : Operand) (ho : op.op = .store ty x y)
    (b o : Nat) (cells : Array Value) (hx : a.eval x = .pointer (some ⟨b, o, none⟩)) (hy : a.eval y = .agg cells)
    (ht : w.there b o cells.size) (hi : (P.info? ty).map (·.size) = some cells.size) (h1 : cells.all (·.oneCell') = true) (R : World → Prop) (hR : R (w.setCells b o cells.toList))
    (h : ∀ W, R W → wpList P ops Q rest (a.put op.dst undef) W) : wpList P ops Q (op :: rest) a w :=
  wpList_store_mid hgd ty x y ho b o cells hx hy ht hi h1 (h _ hR)

theorem heap_setCells (b : Nat) : ∀ (vs : List Value) (o : Nat) (w : World) (g : Nat), g ≠ b → (w.setCells b o vs).heap[g]? = w.heap[g]?
  | [], _, _, _, _ => rfl
  | v :: r, o, w, g, hg => by
    rw [World.setCells, heap_setCells b r (o + 1) _ g hg]
    exact Below.heap_setCell _ _ _ _ hg
theorem size_setCells (b : Nat) : ∀ (vs : List Value) (o : Nat) (w : World), (w.setCells b o vs).heap.size = w.heap.size
  | [], _, _ => rfl
  | v :: r, o, w => by
    rw [World.setCells, size_setCells b r (o + 1)]
    simp [World.setCell]
theorem rest_setCells (b : Nat) : ∀ (vs : List Value) (o : Nat) (w : World), (w.setCells b o vs).tape = w.tape ∧ (w.setCells b o vs).os = w.os ∧ (w.setCells b o vs).output = w.output
  | [], _, _ => ⟨rfl, rfl, rfl⟩
  | v :: r, o, w => by
    rw [World.setCells]
    exact rest_setCells b r (o + 1) _

/-- What a store into the row leaves. -/
def Stored (W6 : World) (g : Nat) (vb : Option Nat) (v : Value) (xs : List (Nat × Nat)) (W : World) : Prop :=
  Own W v xs ∧ (∀ x, x < W6.heap.size → x ≠ g → vb ≠ some x → W.heap[x]? = W6.heap[x]?) ∧ W6.heap.size ≤ W.heap.size ∧ W.tape = W6.tape ∧ W.os = W6.os ∧ W.output = W6.output

theorem Pt.of_cells {w W : World} {b o k : Nat} (h : Pt w b o k) (hb : W.heap[b]? = w.heap[b]?) : Pt W b o k := by
  obtain ⟨h0, h1, h2, h3, h4, h5, h6, h7, h8, h9⟩ := h
  have e : ∀ j, W.cell? ⟨b, j, none⟩ = w.cell? ⟨b, j, none⟩ := fun j => by simp only [World.cell?, hb]
  refine ⟨?_, ?_, ?_, ?_, ?_, ?_, ?_, ?_, ?_, ?_⟩ <;> rw [e] <;> assumption

/-- Behind the store into the row, and the set's own. -/
theorem last_facts {w W6 W7 : World} {sb so k : Nat} {v v' : Value} {xs' : List (Nat × Nat)} {b7 g : Nat} (hF : Fr w W6 w.heap.size sb so k v) (hp : Pt W6 b7 0 k) (le : w.heap.size + 2 ≤ b7) (hS : Stored W6 g v.ownBlock v' xs' W7) (hob : ∀ x, v.ownBlock = some x → x < w.heap.size) (hon : v.ownBlock ≠ some sb) (hg1 : g ≠ b7) (hg2 : g ≠ sb) (hg3 : g ≠ w.heap.size + 1)
    (hv' : v'.ownBlock = some g) (hat : v.ownBlock = some g ∨ w.heap.size ≤ g) (hc : w.cell? ⟨sb, so, none⟩ = some v) (hf : w.frozen? ⟨sb, so, none⟩ = false) :
    W7.cell? ⟨sb, so, none⟩ = some v ∧ W7.frozen? ⟨sb, so, none⟩ = false ∧ Pt (W7.setCell ⟨sb, so, none⟩ v') b7 0 k ∧ Pt (W7.setCell ⟨sb, so, none⟩ v') (w.heap.size + 1) 0 0 ∧ (∀ j, (W7.setCell ⟨sb, so, none⟩ v').frozen? ⟨w.heap.size + 1, j, none⟩ = false) ∧
      Out w (W7.setCell ⟨sb, so, none⟩ v') sb so v v' xs' := by
  have sl : sb < w.heap.size := World.block_lt_of_cell? _ _ hc
  obtain ⟨s1, s2, s3, s4, s5, s6⟩ := hS
  have gr := hF.gr
  have hz := gr.size
  have hb7 : b7 < W6.heap.size := World.block_lt_of_cell? _ _ hp.1
  have e0 : W7.heap[sb]? = w.heap[sb]? := (s2 sb (by omega) (Ne.symm hg2) hon).trans (gr.block sl)
  have hbn : ∀ x, w.heap.size ≤ x → v.ownBlock ≠ some x := fun x hx e => by have := hob x e; omega
  have e1 : ∀ x, x < W6.heap.size → x ≠ g → v.ownBlock ≠ some x → x ≠ sb → (W7.setCell ⟨sb, so, none⟩ v').heap[x]? = W6.heap[x]? := fun x h0 h1 h3 h2 => (Below.heap_setCell _ _ _ _ h2).trans (s2 x h0 h1 h3)
  refine ⟨by rw [← hc]; simp only [World.cell?, e0], by rw [← hf]; simp only [World.frozen?, e0], hp.of_cells (e1 b7 hb7 (Ne.symm hg1) (hbn _ (by omega)) (by omega)), hF.res.of_cells (e1 _ (by omega) (Ne.symm hg3) (hbn _ (by omega)) (by omega)), fun j => ?_, setCell_block e0, ?_, ?_, ?_⟩
  · rw [← hF.fro j]
    simp only [World.frozen?, e1 _ (show w.heap.size + 1 < W6.heap.size by omega) (Ne.symm hg3) (hbn _ (by omega)) (show w.heap.size + 1 ≠ sb by omega)]
  · exact s1.of_heap fun x hx => Below.heap_setCell _ _ _ _ (by rw [hv'] at hx; cases hx; exact hg2)
  · rcases hat with h | h
    · exact .inl (by rw [hv', h])
    · exact .inr ⟨g, hv', h⟩
  · have c := gr.chg (fun _ => False)
    refine ⟨s4.trans c.1, s5.trans c.2.1, s6.trans c.2.2.1, by have := c.2.2.2.1; simp [World.setCell]; omega, fun x hx hn => ?_⟩
    have hxg : x ≠ g := fun e => by
      rcases hat with h | h
      · exact hn (.inr (by rw [h, e]))
      · omega
    rw [e1 x (by omega) hxg (fun e => hn (.inr e)) (fun e => hn (.inl e))]
    exact gr.block hx

theorem info138s : (Yba.prog.info? 138).map (·.size) = some 11 := by kernel_rfl

theorem clear_none (w : World) (dp : Option Addr) (c : Nat) (ty : TypeId) : (Builtin.clear_ #[91] ty #[.slice dp 0 c]).run Yba.prog w = .ok (.tuple #[]) w := by
  cases dp <;> simp [Builtin.clear_, run_underlying Yba.underlying91, Result.andThen]

/-- .. and the joined range in block b7, its place sq; the element i of the row. -/
structure Jn (w wr : World) (sb so k : Nat) (v : Value) (b7 g i old sq : Nat) : Prop where
  fr : Fr w wr w.heap.size sb so k v
  pt : Pt wr b7 0 k
  sq : wr.cell? ⟨b7, 10, none⟩ = some (.int .u64 (sq : Nat))
  fz : wr.frozen? ⟨b7, 10, none⟩ = false
  el : Pt wr g (i * 11) k
  os : wr.cell? ⟨g, i * 11 + 10, none⟩ = some (.int .u64 (old : Nat))
  le : w.heap.size + 2 ≤ b7
  gl : g < w.heap.size
  sl : sb < w.heap.size
theorem Jn.to {w wr w' : World} {sb so k : Nat} {v : Value} {b7 g i old sq : Nat} (h : Jn w wr sb so k v b7 g i old sq) (hg : Gr wr w') : Jn w w' sb so k v b7 g i old sq :=
  ⟨h.fr.to hg, h.pt.gr hg, hg.cell_of h.sq, by
    have hb : b7 < wr.heap.size := World.block_lt_of_cell? _ _ h.sq
    have := h.fz
    simpa only [World.frozen?, hg.block hb] using this, h.el.gr hg, hg.cell_of h.os, h.le, h.gl, h.sl⟩
theorem cell_setCell_other {w : World} {b o b' o' : Nat} {v : Value} (hne : b ≠ b' ∨ o ≠ o') : (w.setCell ⟨b', o', none⟩ v).cell? ⟨b, o, none⟩ = w.cell? ⟨b, o, none⟩ := by
  by_cases hb : b = b'
  · subst hb
    have ho : o' ≠ o := by rcases hne with h | h <;> omega
    simp only [World.cell?, World.setCell, Array.getElem?_modify, if_pos]
    cases w.heap[b]? with
    | none => rfl
    | some x =>
      cases x <;> simp [ho]
  · have e : (w.setCell ⟨b', o', none⟩ v).heap[b]? = w.heap[b]? := Below.heap_setCell _ _ _ _ hb
    simp only [World.cell?, e]
theorem cell_setCell_same {w : World} {b o : Nat} {u v : Value} (h : w.cell? ⟨b, o, none⟩ = some u) : (w.setCell ⟨b, o, none⟩ v).cell? ⟨b, o, none⟩ = some v := by
  unfold World.cell? at h
  simp only [World.cell?, World.setCell, Array.getElem?_modify, if_pos]
  cases hb : w.heap[b]? with
  | none => rw [hb] at h; simp at h
  | some x =>
    rw [hb] at h
    cases x <;> simp at h
    rename_i c t f
    have : o < c.size := (Array.getElem?_eq_some_iff.1 h).1
    simp [this]
theorem Pt.setCell {w : World} {b o k b' o' : Nat} {v : Value} (h : Pt w b o k) (hne : b ≠ b' ∨ o + 9 < o') : Pt (w.setCell ⟨b', o', none⟩ v) b o k := by
  obtain ⟨h0, h1, h2, h3, h4, h5, h6, h7, h8, h9⟩ := h
  refine ⟨?_, ?_, ?_, ?_, ?_, ?_, ?_, ?_, ?_, ?_⟩ <;> rw [cell_setCell_other (by omega)] <;> assumption
theorem Jn.put {w wr : World} {sb so k : Nat} {v : Value} {b7 g i old sq : Nat} (h : Jn w wr sb so k v b7 g i old sq) (t : Nat) : Jn w (wr.setCell ⟨b7, 10, none⟩ (.int .u64 (t : Nat))) sb so k v b7 g i old t := by
  have l := h.le
  have l2 := h.gl
  have l3 := h.sl
  refine ⟨⟨h.fr.gr.setCell (by show _ ≤ b7; omega) _, ?_, h.fr.rng.setCell (.inl (by omega)), h.fr.res.setCell (.inl (by omega)), fun j => ?_⟩, h.pt.setCell (.inr (by omega)), cell_setCell_same h.sq, by simpa using h.fz, h.el.setCell (.inl (by omega)), ?_, l, l2, l3⟩
  · rw [cell_setCell_other (.inl (by omega))]; exact h.fr.set
  · simpa using h.fr.fro j
  · rw [cell_setCell_other (.inl (by omega))]; exact h.os
theorem Jn.start {w W3 : World} {sb so k : Nat} {v : Value} {g i old s : Nat} (hF : Fr w W3 w.heap.size sb so k v) (hp : Pt W3 g (i * 11) k) (hs : W3.cell? ⟨g, i * 11 + 10, none⟩ = some (.int .u64 (old : Nat))) (gl : g < w.heap.size) (sl : sb < w.heap.size) :
    Jn w (W3.alloc (.cells #[.bool false, .int .i64 (k : Nat), .slice none 0 0, .bool false, .int .i64 (k : Nat), .slice none 0 0, .bool false, .bool false, .bool false, .bool false, .int .u64 (s : Nat)] 138)) sb so k v W3.heap.size g i old s := by
  have gr := (Gr.refl W3).alloc (.cells #[.bool false, .int .i64 (k : Nat), .slice none 0 0, .bool false, .int .i64 (k : Nat), .slice none 0 0, .bool false, .bool false, .bool false, .bool false, .int .u64 (s : Nat)] 138)
  have hb := heap_alloc_new W3 (.cells #[.bool false, .int .i64 (k : Nat), .slice none 0 0, .bool false, .int .i64 (k : Nat), .slice none 0 0, .bool false, .bool false, .bool false, .bool false, .int .u64 (s : Nat)] 138)
  have l : w.heap.size + 1 < W3.heap.size := World.block_lt_of_cell? _ _ hF.res.1
  refine ⟨hF.to gr, ?_, by simp only [World.cell?, hb]; rfl, by simp only [World.frozen?, hb]; simp, hp.gr gr, gr.cell_of hs, by omega, gl, sl⟩
  refine ⟨?_, ?_, ?_, ?_, ?_, ?_, ?_, ?_, ?_, ?_⟩ <;> (simp only [World.cell?, hb]; rfl)

set_option maxRecDepth 100000 in
set_option maxHeartbeats 1000000 in
theorem add_turn (w : World) (sb so k s kf : Nat) (v : Value) (xs : List (Nat × Nat)) (kp : Nat → Nat → Nat) (eg : ∀ args w, (callFunc kf args).run Yba.prog w = .ok (.enter kf args) w)
    (hkf : ∀ W a b, Calls Yba.prog kf #[.int .u64 (a : Nat), .int .u64 (b : Nat)] W fun e w' => e = .returned (.int .u64 (kp a b : Nat)) ∧ w' = W)
    (hc : w.cell? ⟨sb, so, none⟩ = some v) (hf : w.frozen? ⟨sb, so, none⟩ = false) (hown : Own w v xs) (hne : v.ownBlock ≠ some sb) (ho : Ord xs) (hn : xs.length ≤ 256) (old : Nat) (hget : xs[below xs k]? = some (k, old)) (hj : below xs (k + 1) = below xs k + 1) (hold : kp old s ≠ old) :
    Calls Yba.prog 34 #[.pointer (some ⟨sb, so, none⟩), .agg #[.bool false, .int .i64 (k : Nat), .slice none 0 0, .bool false, .int .i64 (k : Nat), .slice none 0 0, .bool false, .bool false, .bool false, .bool false], .int .u64 (s : Nat), .func (.func kf) #[] #[]] w
      fun e w' => (∃ r, e = .returned r) ∧ ∃ v', w'.heap[sb]? = (w.setCell ⟨sb, so, none⟩ v').heap[sb]? ∧ Own w' v' (xs.set (below xs k) (k, kp s old)) ∧ (v'.ownBlock = v.ownBlock ∨ ∃ x, v'.ownBlock = some x ∧ w.heap.size ≤ x) ∧ Chg w w' (fun x => x = sb ∨ v.ownBlock = some x) := by
  obtain ⟨g, hr⟩ := hown.rd
  obtain ⟨a, cap, hv, ha⟩ := hr.1
  have hlt : below xs k < xs.length := (List.getElem?_eq_some_iff.1 hget).1
  have e := ha (by omega)
  subst e
  obtain ⟨hp, hs⟩ := hr.2 _ _ hget
  have hcap : xs.length ≤ cap := by
    obtain ⟨_, _, e, h1, _⟩ := hown.form (by omega)
    rw [hv] at e
    injection e with _ _ e3
    omega
  obtain ⟨i, Hi⟩ : ∃ i, Hid (below xs k = i) := ⟨_, rfl⟩
  obtain ⟨n, Hn⟩ : ∃ n, Hid (xs.length = n) := ⟨_, rfl⟩
  have Hv : Hid (v = .slice (some ⟨g, 0, none⟩) n cap) := by show _ = _; rw [hv, Hn.out]
  clear hv ha
  have hmix := mixed
  have hF0 := Fr.start w sb so k _ hc
  have cE := fun W h => empty_calls W w.heap.size 0 k h
  have cS := fun W (h : Gr w W) => sharing_calls W g _ xs k (hr.gr h) ho hn
  rw [hj] at cS
  rw [Hi.out] at cS
  go_enter Yba.func34, Yba.ntmps34
  go_wp2_with (go_at_call 43; refine (cE _ hF0.rng).mono ?_; rintro e W1 ⟨rfl, g1⟩)
  have hF := hF0.to g1
  clear hF0 g1 cE
  have q0 := fun n os => (hF.to ⟨n, os, rfl⟩).set
  have qr := fun n os => (hF.to ⟨n, os, rfl⟩).rng
  have q1 := fun n os => (qr n os).1
  have q2 := fun n os => (qr n os).2.1
  have q3 := fun n os => (qr n os).2.2.1
  have q4 := fun n os => (qr n os).2.2.2.1
  have q5 := fun n os => (qr n os).2.2.2.2.1
  have q6 := fun n os => (qr n os).2.2.2.2.2.1
  have q7 := fun n os => (qr n os).2.2.2.2.2.2.1
  have q8 := fun n os => (qr n os).2.2.2.2.2.2.2.1
  have q9 := fun n os => (qr n os).2.2.2.2.2.2.2.2.1
  have q10 := fun n os => (qr n os).2.2.2.2.2.2.2.2.2
  have cS' := fun n os => cS _ (hF.to (W' := grow (W1.drewN n) os) ⟨n, os, rfl⟩).gr
  clear qr cS
  go_quiet_grown (first | (go_at_call 44; refine Calls.grown_of (cS' _ _)))
  have hF2 := hF.to ⟨nq, osq, rfl⟩
  clear q0 q1 q2 q3 q4 q5 q6 q7 q8 q9 q10 cS' hF
  generalize grow (W1.drewN nq) osq = W2 at *
  clear nq osq
  have x0 := hF2.set
  have hp2 := hp.gr hF2.gr
  rw [Hi.out] at hp2 hs hlt
  rw [Hn.out] at hlt hn hcap
  have hs2 := hF2.gr.cell_of hs
  have hi' : (i : Int) < (n : Int) := by omega
  have hn' : (n : Int) ≤ 256 := by omega
  have hw1 : IntKind.i64.wrap ((i : Int) + 1) = (i : Int) + 1 := by rw [IntKind.wrap_i64]; omega
  have hw2 : IntKind.i64.wrap (i : Int) = (i : Int) := by rw [IntKind.wrap_i64]; omega
  have hv := Hv.out
  subst hv
  go_wp2_with fail
  have hko : ((kp old s : Int) == (old : Int)) = false := by simp; omega
  have Hk : Hid (∀ W a b, Calls Yba.prog kf #[.int .u64 (a : Nat), .int .u64 (b : Nat)] W fun e w' => e = .returned (.int .u64 (kp a b : Nat)) ∧ w' = W) := hkf
  have cC := fun n os => contains_calls (grow (W2.drewN n) os) g (i * 11) w.heap.size 0 k (hp2.gr ⟨n, os, rfl⟩) (hF2.to ⟨n, os, rfl⟩).rng
  have cK : ∀ n os, Calls Yba.prog kf #[.int .u64 (old : Nat), .int .u64 (s : Nat)] (grow (W2.drewN n) os) fun e w' => e = .returned (.int .u64 (kp old s : Nat)) ∧ Gr (grow (W2.drewN n) os) w' := fun n os => (hkf (grow (W2.drewN n) os) old s).mono fun e w' ⟨he, hw⟩ => ⟨he, by rw [hw]; exact Gr.refl _⟩
  have p0 := fun n os => (Gr.cell_of (a := W2) (b := grow (W2.drewN n) os) ⟨n, os, rfl⟩ hs2)
  have HF : Hid (Fr w W2 w.heap.size sb so k (.slice (some ⟨g, 0, none⟩) n cap)) := hF2
  have Hp : Hid (Pt W2 g (i * 11) k) := hp2
  have Hs : Hid (W2.cell? ⟨g, i * 11 + 10, none⟩ = some (.int .u64 (old : Nat))) := hs2
  have Hown : Hid (Own w (.slice (some ⟨g, 0, none⟩) n cap) xs) := hown
  have Hc : Hid (w.cell? ⟨sb, so, none⟩ = some (.slice (some ⟨g, 0, none⟩) n cap)) := hc
  have Hf : Hid (w.frozen? ⟨sb, so, none⟩ = false) := hf
  have Hne : Hid ((Value.slice (some ⟨g, 0, none⟩) n cap).ownBlock ≠ some sb) := hne
  clear hkf hold hj hget hown hr hp hs hF2 hp2 hs2 hc hf ho hne x0 Hv
  go_quiet_grown (first | (go_at_call 45; refine Calls.grown_of (cC _ _)) | (go_at_fn kf; refine Calls.grown_of (cK _ _)))
  have hF3 := HF.out.to ⟨nq, osq, rfl⟩
  have hp3 := Hp.out.gr (w' := grow (W2.drewN nq) osq) ⟨nq, osq, rfl⟩
  have hs3 := Gr.cell_of (a := W2) (b := grow (W2.drewN nq) osq) ⟨nq, osq, rfl⟩ Hs.out
  clear cC cK p0 HF Hp Hs hko
  generalize grow (W2.drewN nq) osq = W3 at *
  clear nq osq
  obtain ⟨a0, a1, a2, a3, a4, a5, a6, a7, a8, a9⟩ := hF3.rng
  have HF : Hid (Fr w W3 w.heap.size sb so k (.slice (some ⟨g, 0, none⟩) n cap)) := hF3
  have Hp : Hid (Pt W3 g (i * 11) k) := hp3
  have Hs : Hid (W3.cell? ⟨g, i * 11 + 10, none⟩ = some (.int .u64 (old : Nat))) := hs3
  have hci : ¬ cap = i := by omega
  have Hgl : Hid (g < w.heap.size ∧ sb < w.heap.size) := ⟨Hown.out.lt rfl, World.block_lt_of_cell? _ _ Hc.out⟩
  clear hF3 hp3 hs3
  go_upto_block 0 with fail
  have hJ := Jn.start (s := s) HF.out Hp.out Hs.out Hgl.out.1 Hgl.out.2
  generalize W3.alloc (.cells #[.bool false, .int .i64 (k : Nat), .slice none 0 0, .bool false, .int .i64 (k : Nat), .slice none 0 0, .bool false, .bool false, .bool false, .bool false, .int .u64 (s : Nat)] 138) = W4 at *
  generalize W3.heap.size = b7 at *
  clear a0 a1 a2 a3 a4 a5 a6 a7 a8 a9 HF Hp Hs
  go_cut [70] from 65 to 84 (fun s70 wx => Jn w wx sb so k (.slice (some ⟨g, 0, none⟩) n cap) b7 g i old (kp s old))
  case first =>
    go_wp2_with fail
    go_loopg [70] 1 (fun gm s70 wr => ∃ t sq, t ≤ 1 ∧ gm = 1 - t ∧ s70 = .int .i64 (t : Nat) ∧ Jn w wr sb so k (.slice (some ⟨g, 0, none⟩) n cap) b7 g i old sq ∧ sq = if t = 0 then s else kp s old)
    case atStart => exact ⟨0, s, by omega, rfl, rfl, hJ, rfl⟩
    case round =>
      obtain ⟨t, sq, ht, rfl, rfl, hJt, hsq⟩ := hrel
      clear hJ
      by_cases h0 : t = 0
      · subst h0
        rw [if_pos rfl] at hsq
        subst hsq
        obtain ⟨a0, a1, a2, a3, a4, a5, a6, a7, a8, a9⟩ := hJt.el
        have a10 := hJt.os
        have cJ : Calls Yba.prog 46 #[.pointer (some ⟨b7, 0, none⟩), .pointer (some ⟨wr.heap.size, 0, none⟩)] (wr.alloc (.cells #[.bool false, .int .i64 (k : Nat), .slice none 0 0, .bool false, .int .i64 (k : Nat), .slice none 0 0, .bool false, .bool false, .bool false, .bool false, .int .u64 (old : Nat)] 138))
            fun e w' => e = .returned (.tuple #[]) ∧ Jn w w' sb so k (.slice (some ⟨g, 0, none⟩) n cap) b7 g i old sq ∧ w'.cell? ⟨b7, 10, none⟩ = some (.int .u64 (sq : Nat)) ∧ w'.frozen? ⟨b7, 10, none⟩ = false ∧ w'.cell? ⟨wr.heap.size, 10, none⟩ = some (.int .u64 (old : Nat)) := by
          have gr := (Gr.refl wr).alloc (.cells #[.bool false, .int .i64 (k : Nat), .slice none 0 0, .bool false, .int .i64 (k : Nat), .slice none 0 0, .bool false, .bool false, .bool false, .bool false, .int .u64 (old : Nat)] 138)
          have hb := heap_alloc_new wr (.cells #[.bool false, .int .i64 (k : Nat), .slice none 0 0, .bool false, .int .i64 (k : Nat), .slice none 0 0, .bool false, .bool false, .bool false, .bool false, .int .u64 (old : Nat)] 138)
          have hx : (wr.alloc (.cells #[.bool false, .int .i64 (k : Nat), .slice none 0 0, .bool false, .int .i64 (k : Nat), .slice none 0 0, .bool false, .bool false, .bool false, .bool false, .int .u64 (old : Nat)] 138)).cell? ⟨wr.heap.size, 10, none⟩ = some (.int .u64 (old : Nat)) := by simp only [World.cell?, hb]; rfl
          refine (join_calls _ b7 0 wr.heap.size 0 k (hJt.pt.gr gr) ?_).mono fun e w' ⟨he, hg⟩ => ⟨he, hJt.to (gr.trans hg), ((hJt.to (gr.trans hg))).sq, ((hJt.to (gr.trans hg))).fz, hg.cell_of hx⟩
          refine ⟨?_, ?_, ?_, ?_, ?_, ?_, ?_, ?_, ?_, ?_⟩ <;> (simp only [World.cell?, hb]; rfl)
        clear hJt
        go_wp2_with first | (go_at_call 46; refine cJ.mono ?_; rintro e W5 ⟨rfl, hJ5, y1, y2, y3⟩) | (go_at_fn kf; refine (Hk.out _ _ _).mono ?_; rintro e w' ⟨rfl, rfl⟩)
        go_roundg 0
        case measure => omega
        case rel => exact ⟨1, kp sq old, by omega, rfl, rfl, hJ5.put _, rfl⟩
      · obtain rfl : t = 1 := by omega
        rw [if_neg (by omega)] at hsq
        subst hsq
        go_wp2_with fail
        go_meet
        exact hJt
  case rest =>
    clear hJ
    have HJ : Hid (Jn w wc sb so k (.slice (some ⟨g, 0, none⟩) n cap) b7 g i old (kp s old)) := hcut
    clear hcut
    have hij : ((i : Int) == (i : Int) + 1) = false := by simp; omega
    have hb0 : (0 : Int) ≤ (i : Int) + 1 := by omega
    have hb1 : (i : Int) + 1 ≤ (n : Int) := by omega
    have hb2 : ((i : Int) + 1).toNat = i + 1 := by omega
    obtain ⟨m, hm⟩ : ∃ m, n - (i + 1) = m := ⟨_, rfl⟩
    have hm2 : (i : Int) + 1 + (m : Int) = (n : Int) := by omega
    have hw3 : IntKind.i64.wrap (n : Int) = (n : Int) := by rw [IntKind.wrap_i64]; omega
    obtain ⟨dp, hif⟩ : ∃ dp, (if cap = i + 1 then (some ⟨g, 0, none⟩ : Option Addr) else some ⟨g, (i + 1) * 11, none⟩) = dp := ⟨_, rfl⟩
    have hdp : 0 < m → dp = some ⟨g, (i + 1) * 11, none⟩ := fun h0 => by rw [← hif, if_neg (by omega)]
    have cp : ∀ n1 os1, (Builtin.copy_ #[91, 91] 3 #[.slice dp m (cap - (i + 1)), .slice dp m (cap - (i + 1))]).run Yba.prog (grow (wc.drewN n1) os1) = .ok (.int .i64 (m : Nat)) (grow (wc.drewN n1) os1) := by
      intro n1 os1
      have hO := Hown.out.gr (HJ.out.to (w' := grow (wc.drewN n1) os1) ⟨n1, os1, rfl⟩).fr.gr
      unfold Own at hO
      rw [Hn.out] at hO
      have hl := flat_len (xs.drop (i + 1))
      rw [List.length_drop, Hn.out, hm] at hl
      have hcs : ∀ j, j < (flat (xs.drop (i + 1))).length → (flat (xs.drop (i + 1)))[j]? = (flat xs)[(i + 1) * 11 + j]? := fun j hj => by
        have h2 : flat xs = flat (xs.take (i + 1)) ++ flat (xs.drop (i + 1)) := by rw [← flat_append, List.take_append_drop]
        have h3 := flat_len (xs.take (i + 1))
        rw [List.length_take, Hn.out, Nat.min_eq_left (by omega)] at h3
        rw [h2, List.getElem?_append_right (by omega), h3, Nat.add_sub_cancel_left]
      rw [run_copy_own hO (flat_one xs) dp dp m (cap - (i + 1)) m (cap - (i + 1)) m ((i + 1) * 11) ((i + 1) * 11) _ 3 (Nat.min_self m) hl (fun h0 => ⟨hdp h0, hdp h0⟩) hcs (by omega) (by omega)]
      congr 1
      exact setCells_self _ _ _ _ (fun j hj => by rw [hO.cellAt _ (by omega), hcs j hj])
    go_wp2_with fail
    go_quiet_grown (fail)
    have hJ6 := HJ.out.to (w' := grow (wc.drewN nq) osq) ⟨nq, osq, rfl⟩
    clear cp HJ hif hdp hm2
    generalize grow (wc.drewN nq) osq = W6 at *
    clear nq osq
    obtain ⟨dp2, hif2⟩ : ∃ dp, (if cap = n then (some ⟨g, 0, none⟩ : Option Addr) else some ⟨g, n * 11, none⟩) = dp := ⟨_, rfl⟩
    have hcl : ∀ W, (Builtin.clear_ #[91] 0 #[.slice dp2 0 (cap - n)]).run Yba.prog W = .ok (.tuple #[]) W := fun W => clear_none W dp2 _ 0
    have hcap' : (n : Int) ≤ (cap : Int) := by omega
    have hn0 : (0 : Int) ≤ (n : Int) := by omega
    have hnt : ((n : Int)).toNat = n := by omega
    have HJ : Hid (Jn w W6 sb so k (.slice (some ⟨g, 0, none⟩) n cap) b7 g i old (kp s old)) := hJ6
    obtain ⟨a0, a1, a2, a3, a4, a5, a6, a7, a8, a9⟩ := hJ6.pt
    have a10 := hJ6.sq
    obtain ⟨e0, e1, e2, e3, e4, e5, e6, e7, e8, e9⟩ := hJ6.el
    have e10 := hJ6.os
    have fz : ∀ j, W6.frozen? ⟨g, j, none⟩ = false := fun j => by
      have hO := Hown.out.gr hJ6.fr.gr
      unfold Own at hO
      rw [Hn.out] at hO
      exact hO.frozenAt j
    have l1 := hJ6.le
    have l2 := hJ6.gl
    have l3 := hJ6.sl
    have ne1 : ¬ b7 = g := by omega
    have ne2 : ¬ g = b7 := by omega
    have Hne4 : Hid (g < w.heap.size ∧ sb < w.heap.size ∧ w.heap.size + 2 ≤ b7) := ⟨l2, l3, l1⟩
    clear hJ6 l1 l2 l3
    go_upto_region 20 with fail
    have ht : W6.there g (i * 11) 11 := fun j hj => by
      have hO := Hown.out.gr HJ.out.fr.gr
      unfold Own at hO
      rw [Hn.out] at hO
      have hf0 := flat_len xs
      rw [Hn.out] at hf0
      exact ⟨by rw [hO.cellAt _ (by omega), List.getElem?_eq_getElem (by omega)]; rfl, hO.frozenAt _⟩
    obtain ⟨sq, hsq⟩ : ∃ sq, kp s old = sq := ⟨_, rfl⟩
    have R7 : W6.there g (i * 11) 11 → Jn w W6 sb so k (.slice (some ⟨g, 0, none⟩) n cap) b7 g i old sq → Own w (.slice (some ⟨g, 0, none⟩) n cap) xs →
        Stored W6 g (some g) (.slice (some ⟨g, 0, none⟩) n cap) (xs.set i (k, sq)) (W6.setCells g (i * 11) (pc k sq)) := by
      intro _ hJ hO0
      have hO := hO0.gr hJ.fr.gr
      unfold Own at hO
      rw [Hn.out] at hO
      have h := own_setCells hO (pc k sq) (i * 11) (by rw [pc_len]; omega)
      rw [flat_set xs i k sq (by rw [Hn.out]; exact hlt)] at h
      refine ⟨?_, fun x _ hx _ => heap_setCells _ _ _ _ _ hx, Nat.le_of_eq (size_setCells _ _ _ _).symm, rest_setCells _ _ _ _⟩
      unfold Own
      rw [List.length_set, Hn.out]
      exact h
    rw [hsq] at a10
    have HJ' : Hid (Jn w W6 sb so k (.slice (some ⟨g, 0, none⟩) n cap) b7 g i old sq) := by have := HJ.out; rw [hsq] at this; exact this
    have hR7 := R7 ht HJ'.out Hown.out
    clear R7 HJ e0 e1 e2 e3 e4 e5 e6 e7 e8 e9 e10 fz
    go_upto_region 22 with (refine wpList_store_to rfl 138 _ _ rfl g (i * 11) #[.bool false, .int .i64 (k : Nat), .slice none 0 0, .bool false, .int .i64 (k : Nat), .slice none 0 0, .bool false, .bool false, .bool false, .bool false, .int .u64 (sq : Nat)] rfl rfl ht info138s (all_oneCell_toArray (pc_one k sq)) (Stored W6 g (some g) (.slice (some ⟨g, 0, none⟩) n cap) (xs.set i (k, sq))) hR7 ?_; intro W7 H7; obtain ⟨y0, z0, r1, r2, r3, r4⟩ := last_facts HJ'.out.fr HJ'.out.pt Hne4.out.2.2 H7 (fun x hx => Hown.out.lt hx) Hne.out (by have := Hne4.out; omega) (fun e => Hne.out (by rw [← e]; rfl)) (by have := Hne4.out; omega) rfl (.inl rfl) Hc.out Hf.out; have Hr1 : Hid (Pt (W7.setCell ⟨sb, so, none⟩ (.slice (some ⟨g, 0, none⟩) n cap)) b7 0 k) := r1; have Hr2 : Hid (Pt (W7.setCell ⟨sb, so, none⟩ (.slice (some ⟨g, 0, none⟩) n cap)) (w.heap.size + 1) 0 0 ∧ ∀ j, (W7.setCell ⟨sb, so, none⟩ (.slice (some ⟨g, 0, none⟩) n cap)).frozen? ⟨w.heap.size + 1, j, none⟩ = false) := ⟨r2, r3⟩; have Hr4 : Hid (Out w (W7.setCell ⟨sb, so, none⟩ (.slice (some ⟨g, 0, none⟩) n cap)) sb so (.slice (some ⟨g, 0, none⟩) n cap) (.slice (some ⟨g, 0, none⟩) n cap) (xs.set i (k, sq))) := r4; clear hR7 ht H7 r1 r2 r3 r4 a0 a1 a2 a3 a4 a5 a6 a7 a8 a9 a10)
    have d := Hr1.out
    have d' := Hr2.out
    clear Hr1 Hr2
    generalize W7.setCell ⟨sb, so, none⟩ (.slice (some ⟨g, 0, none⟩) n cap) = W8 at *
    obtain ⟨a0, a1, a2, a3, a4, a5, a6, a7, a8, a9⟩ := d
    obtain ⟨⟨d0, d1, d2, d3, d4, d5, d6, d7, d8, d9⟩, z⟩ := d'
    clear y0 z0
    go_wp2_with fail
    have hend : ∀ W, Out w W sb so (.slice (some ⟨g, 0, none⟩) n cap) (.slice (some ⟨g, 0, none⟩) n cap) (xs.set i (k, sq)) → (∃ r, Ending.returned (.tuple #[.agg #[.bool false, .int .i64 (k : Nat), .slice none 0 0, .bool false, .int .i64 (k : Nat), .slice none 0 0, .bool false, .bool false, .bool false, .bool false], .bool true]) = .returned r) ∧ ∃ v', W.heap[sb]? = (w.setCell ⟨sb, so, none⟩ v').heap[sb]? ∧ Own W v' (xs.set (below xs k) (k, kp s old)) ∧
        (v'.ownBlock = (Value.slice (some ⟨g, 0, none⟩) n cap).ownBlock ∨ ∃ x, v'.ownBlock = some x ∧ w.heap.size ≤ x) ∧ Chg w W (fun x => x = sb ∨ (Value.slice (some ⟨g, 0, none⟩) n cap).ownBlock = some x) :=
      fun W h => ⟨⟨_, rfl⟩, _, h.blk, by rw [Hi.out, hsq]; exact h.own, h.at', h.chg⟩
    refine bodyPost_ret ?_ rfl (hend _ ?_)
    · rw [results_cell_tmp rfl]
      go_simp
    · have hnb : (Value.slice (some ⟨g, 0, none⟩) n cap).ownBlock ≠ some (w.heap.size + 1) := fun e => by
        have e2 : g = w.heap.size + 1 := by simpa [Value.ownBlock] using e
        have := Hne4.out
        omega
      repeat (refine Out.setCell ?_ (by omega) hnb Hne4.out.2.1 _ _)
      exact Hr4.out

end Go.Proofs.Ybulkbopq
