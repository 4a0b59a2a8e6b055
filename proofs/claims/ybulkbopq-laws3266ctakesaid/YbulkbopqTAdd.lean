/-
  rangeSet.add at a range of one key.
-/
import Derived.Test.YbulkbopqTIns
import Derived.Deep.RegionLaw
import Derived.Deep.DeepCutAuto
import Derived.Deep.CutBlock
import Derived.Deep.LoopGhost
namespace Go.Proofs.Ybulkbopq
open Go.RowKit Go.Sort

/-- w' is w with nothing turned but in the blocks of which p holds; new blocks behind. -/
def Chg (w w' : World) (p : Nat → Prop) : Prop := w'.tape = w.tape ∧ w'.os = w.os ∧ w'.output = w.output ∧ w.heap.size ≤ w'.heap.size ∧ ∀ x, x < w.heap.size → ¬ p x → w'.heap[x]? = w.heap[x]?
theorem Chg.refl (w : World) (p : Nat → Prop) : Chg w w p := ⟨rfl, rfl, rfl, Nat.le_refl _, fun _ _ _ => rfl⟩
theorem Chg.trans {a b c : World} {p q r : Nat → Prop} (h : Chg a b p) (h' : Chg b c q) (hp : ∀ x, x < a.heap.size → p x → r x) (hq : ∀ x, x < a.heap.size → q x → r x) : Chg a c r :=
  ⟨h'.1.trans h.1, h'.2.1.trans h.2.1, h'.2.2.1.trans h.2.2.1, Nat.le_trans h.2.2.2.1 h'.2.2.2.1, fun x hx hn => (h'.2.2.2.2 x (Nat.lt_of_lt_of_le hx h.2.2.2.1) (fun e => hn (hq x hx e))).trans (h.2.2.2.2 x hx (fun e => hn (hp x hx e)))⟩
theorem Gr.chg {a b : World} (h : Gr a b) (p : Nat → Prop) : Chg a b p := by
  obtain ⟨h1, h2, h3, _, h5, h6⟩ := Gr.iff.1 h
  exact ⟨h1, h2, h3, h5, fun x hx _ => h6 x hx⟩

theorem max_calls (w : World) (a b : Nat) : Calls Yba.prog 35 #[.int .u64 (a : Nat), .int .u64 (b : Nat)] w fun e w' => e = .returned (.int .u64 (max a b : Nat)) ∧ w' = w := by
  go_enter Yba.func35, Yba.ntmps35
  go_wp2
  go_ret
  exact ⟨by show Ending.returned (Value.int .u64 (max (a : Int) (b : Int))) = _; congr 2; omega, rfl⟩

/-- The lower of two places, 0 standing for none. -/
def early (a b : Nat) : Nat := if a = 0 then b else if b = 0 then a else if b < a then b else a
theorem early_comm (a b : Nat) : early a b = early b a := by unfold early; split <;> split <;> (try split) <;> (try split) <;> omega

theorem early_calls (w : World) (a b : Nat) : Calls Yba.prog 39 #[.int .u64 (a : Nat), .int .u64 (b : Nat)] w fun e w' => e = .returned (.int .u64 (early a b : Nat)) ∧ w' = w := by
  by_cases h1 : a = 0
  · subst h1
    go_enter Yba.func39, Yba.ntmps39
    go_wp2
    go_ret
    exact ⟨by simp [early], rfl⟩
  · have h1' : ((a : Int) == 0) = false := by simp; omega
    by_cases h2 : b = 0
    · subst h2
      go_enter Yba.func39, Yba.ntmps39
      go_wp2
      go_ret
      exact ⟨by simp [early, h1], rfl⟩
    · have h2' : ((b : Int) == 0) = false := by simp; omega
      by_cases h3 : b < a
      · have h3' : (b : Int) < (a : Int) := by omega
        go_enter Yba.func39, Yba.ntmps39
        go_wp2
        go_ret
        exact ⟨by simp [early, h1, h2, h3], rfl⟩
      · have h3' : ¬ (b : Int) < (a : Int) := by omega
        go_enter Yba.func39, Yba.ntmps39
        go_wp2
        go_ret
        exact ⟨by simp [early, h1, h2, h3], rfl⟩

theorem set_self {w : World} {b o : Nat} {v : Value} (h : w.cell? ⟨b, o, none⟩ = some v) : (w.setCell ⟨b, o, none⟩ v).heap[b]? = w.heap[b]? := by
  simp only [World.setCell, Array.getElem?_modify, if_pos]
  unfold World.cell? at h
  cases hb : w.heap[b]? with
  | none => rw [hb] at h; simp at h
  | some x =>
    rw [hb] at h
    cases x <;> simp at h
    rename_i c t f
    simp only [Option.map_some]
    congr 2
    apply Array.ext_getElem?
    intro j
    show (c.setIfInBounds o v)[j]? = _
    rw [Array.getElem?_setIfInBounds]
    by_cases e : o = j
    · subst e
      rw [if_pos rfl, h]
      split
      · rfl
      · rename_i hlt
        rw [Array.getElem?_eq_none (by omega)] at h
        simp at h
    · rw [if_neg e]

/-- What stands while add runs: the range in block b, the result's box in block b + 1. -/
structure Fr (w W : World) (b sb so k : Nat) (v : Value) : Prop where
  gr : Gr w W
  set : W.cell? ⟨sb, so, none⟩ = some v
  rng : Pt W b 0 k
  res : Pt W (b + 1) 0 0
  fro : ∀ j, W.frozen? ⟨b + 1, j, none⟩ = false
theorem Fr.to {w W W' : World} {b sb so k : Nat} {v : Value} (h : Fr w W b sb so k v) (g : Gr W W') : Fr w W' b sb so k v :=
  ⟨h.gr.trans g, g.cell_of h.set, h.rng.gr g, h.res.gr g, fun j => by
    have hb : b + 1 < W.heap.size := World.block_lt_of_cell? _ _ h.res.1
    have := h.fro j
    simpa only [World.frozen?, g.block hb] using this⟩
theorem Fr.start (w : World) (sb so k : Nat) (v : Value) (hc : w.cell? ⟨sb, so, none⟩ = some v) :
    Fr w ((w.alloc (.cells #[.bool false, .int .i64 (k : Nat), .slice none 0 0, .bool false, .int .i64 (k : Nat), .slice none 0 0, .bool false, .bool false, .bool false, .bool false] 136)).alloc
      (.cells #[.bool false, .int .i64 0, .slice none 0 0, .bool false, .int .i64 0, .slice none 0 0, .bool false, .bool false, .bool false, .bool false] 136)) w.heap.size sb so k v := by
  have e1 : (w.alloc (.cells #[.bool false, .int .i64 (k : Nat), .slice none 0 0, .bool false, .int .i64 (k : Nat), .slice none 0 0, .bool false, .bool false, .bool false, .bool false] 136)).heap.size = w.heap.size + 1 := by simp
  have gr := ((Gr.refl w).alloc (.cells #[.bool false, .int .i64 (k : Nat), .slice none 0 0, .bool false, .int .i64 (k : Nat), .slice none 0 0, .bool false, .bool false, .bool false, .bool false] 136)).alloc
      (.cells #[.bool false, .int .i64 0, .slice none 0 0, .bool false, .int .i64 0, .slice none 0 0, .bool false, .bool false, .bool false, .bool false] 136)
  have b1 := heap_alloc_new (w.alloc (.cells #[.bool false, .int .i64 (k : Nat), .slice none 0 0, .bool false, .int .i64 (k : Nat), .slice none 0 0, .bool false, .bool false, .bool false, .bool false] 136)) (.cells #[.bool false, .int .i64 0, .slice none 0 0, .bool false, .int .i64 0, .slice none 0 0, .bool false, .bool false, .bool false, .bool false] 136)
  rw [e1] at b1
  refine ⟨gr, gr.cell_of hc, Pt.of_block (t := 136) ?_, Pt.of_block (t := 136) b1, fun j => by simp only [World.frozen?, b1]; simp⟩
  rw [((Gr.refl _).alloc _).block (by omega)]
  exact heap_alloc_new w _

set_option maxRecDepth 100000 in
set_option maxHeartbeats 400000 in
theorem add_same (w : World) (sb so k s kf : Nat) (v : Value) (xs : List (Nat × Nat)) (kp : Nat → Nat → Nat) (eg : ∀ args w, (callFunc kf args).run Yba.prog w = .ok (.enter kf args) w)
    (hkf : ∀ W a b, Calls Yba.prog kf #[.int .u64 (a : Nat), .int .u64 (b : Nat)] W fun e w' => e = .returned (.int .u64 (kp a b : Nat)) ∧ w' = W)
    (hc : w.cell? ⟨sb, so, none⟩ = some v) (hown : Own w v xs) (ho : Ord xs) (hn : xs.length ≤ 256) (old : Nat) (hget : xs[below xs k]? = some (k, old)) (hj : below xs (k + 1) = below xs k + 1) (hold : kp old s = old) :
    Calls Yba.prog 34 #[.pointer (some ⟨sb, so, none⟩), .agg #[.bool false, .int .i64 (k : Nat), .slice none 0 0, .bool false, .int .i64 (k : Nat), .slice none 0 0, .bool false, .bool false, .bool false, .bool false], .int .u64 (s : Nat), .func (.func kf) #[] #[]] w
      fun e w' => (∃ r, e = .returned r) ∧ ∃ v', w'.heap[sb]? = (w.setCell ⟨sb, so, none⟩ v').heap[sb]? ∧ Own w' v' (xs) ∧ (v'.ownBlock = v.ownBlock ∨ ∃ x, v'.ownBlock = some x ∧ w.heap.size ≤ x) ∧ Chg w w' (fun x => x = sb ∨ v.ownBlock = some x) := by
  obtain ⟨g, hr⟩ := hown.rd
  obtain ⟨a, cap, hv, ha⟩ := hr.1
  have hlt : below xs k < xs.length := (List.getElem?_eq_some_iff.1 hget).1
  have e := ha (by omega)
  subst e
  obtain ⟨hp, hs⟩ := hr.2 _ _ hget
  obtain ⟨i, Hi⟩ : ∃ i, Hid (below xs k = i) := ⟨_, rfl⟩
  obtain ⟨n, Hn⟩ : ∃ n, Hid (xs.length = n) := ⟨_, rfl⟩
  have Hv : Hid (v = .slice (some ⟨g, 0, none⟩) n cap) := by show _ = _; rw [hv, Hn.out]
  clear hv ha
  have hmix := mixed
  have hF0 := Fr.start w sb so k _ hc
  have cE := fun W h => empty_calls W w.heap.size 0 k h
  have cS := fun W (h : Gr w W) => sharing_calls W g _ xs k (hr.gr h) ho hn
  rw [hj] at cS
  rw [Hi.out] at cS
  go_enter Yba.func34, Yba.ntmps34
  go_wp2_with (go_at_call 43; refine (cE _ hF0.rng).mono ?_; rintro e W1 ⟨rfl, g1⟩)
  have hF := hF0.to g1
  clear hF0 g1 cE
  have q0 := fun n os => (hF.to ⟨n, os, rfl⟩).set
  have qr := fun n os => (hF.to ⟨n, os, rfl⟩).rng
  have q1 := fun n os => (qr n os).1
  have q2 := fun n os => (qr n os).2.1
  have q3 := fun n os => (qr n os).2.2.1
  have q4 := fun n os => (qr n os).2.2.2.1
  have q5 := fun n os => (qr n os).2.2.2.2.1
  have q6 := fun n os => (qr n os).2.2.2.2.2.1
  have q7 := fun n os => (qr n os).2.2.2.2.2.2.1
  have q8 := fun n os => (qr n os).2.2.2.2.2.2.2.1
  have q9 := fun n os => (qr n os).2.2.2.2.2.2.2.2.1
  have q10 := fun n os => (qr n os).2.2.2.2.2.2.2.2.2
  have cS' := fun n os => cS _ (hF.to (W' := grow (W1.drewN n) os) ⟨n, os, rfl⟩).gr
  clear qr cS
  go_quiet_grown (first | (go_at_call 44; refine Calls.grown_of (cS' _ _)))
  have hF2 := hF.to ⟨nq, osq, rfl⟩
  clear q0 q1 q2 q3 q4 q5 q6 q7 q8 q9 q10 cS' hF
  generalize grow (W1.drewN nq) osq = W2 at *
  clear nq osq
  have x0 := hF2.set
  have hp2 := hp.gr hF2.gr
  rw [Hi.out] at hp2 hs hlt
  rw [Hn.out] at hlt hn
  have hs2 := hF2.gr.cell_of hs
  have hi' : (i : Int) < (n : Int) := by omega
  have hn' : (n : Int) ≤ 256 := by omega
  have hw1 : IntKind.i64.wrap ((i : Int) + 1) = (i : Int) + 1 := by rw [IntKind.wrap_i64]; omega
  have hw2 : IntKind.i64.wrap (i : Int) = (i : Int) := by rw [IntKind.wrap_i64]; omega
  have hv := Hv.out
  subst hv
  go_wp2_with fail
  have Hk : Hid (∀ W, Calls Yba.prog kf #[.int .u64 (old : Nat), .int .u64 (s : Nat)] W fun e w' => e = .returned (.int .u64 (old : Nat)) ∧ Gr W w') := fun W => (hkf W old s).mono fun e w' ⟨he, hw⟩ => ⟨by rw [he, hold], by rw [hw]; exact Gr.refl W⟩
  have cC := fun n os => contains_calls (grow (W2.drewN n) os) g (i * 11) w.heap.size 0 k (hp2.gr ⟨n, os, rfl⟩) (hF2.to ⟨n, os, rfl⟩).rng
  have cK := fun n os => Hk.out (grow (W2.drewN n) os)
  have p0 := fun n os => (Gr.cell_of (a := W2) (b := grow (W2.drewN n) os) ⟨n, os, rfl⟩ hs2)
  have Hend : Hid (∀ W', Gr w W' → W'.heap[sb]? = (w.setCell ⟨sb, so, none⟩ (.slice (some ⟨g, 0, none⟩) n cap)).heap[sb]? ∧ Own W' (.slice (some ⟨g, 0, none⟩) n cap) xs ∧ Chg w W' (fun x => x = sb ∨ (Value.slice (some ⟨g, 0, none⟩) n cap).ownBlock = some x)) :=
    fun W' hg => ⟨by rw [hg.block (World.block_lt_of_cell? _ _ hc), set_self hc], hown.gr hg, hg.chg _⟩
  have HF : Hid (Fr w W2 w.heap.size sb so k (.slice (some ⟨g, 0, none⟩) n cap)) := hF2
  have Hp : Hid (Pt W2 g (i * 11) k) := hp2
  clear hkf hold hj hget hown hr hp hs hF2 hp2 hs2 hc ho x0 Hi Hn Hv hlt hn
  go_quiet_grown (first | (go_at_call 45; refine Calls.grown_of (cC _ _)) | (go_at_fn kf; refine Calls.grown_of (cK _ _)))
  have hF3 := HF.out.to ⟨nq, osq, rfl⟩
  have hp3 := Hp.out.gr (w' := grow (W2.drewN nq) osq) ⟨nq, osq, rfl⟩
  clear cC cK p0 HF Hp Hk
  generalize grow (W2.drewN nq) osq = W3 at *
  clear nq osq
  obtain ⟨a0, a1, a2, a3, a4, a5, a6, a7, a8, a9⟩ := hp3
  obtain ⟨d0, d1, d2, d3, d4, d5, d6, d7, d8, d9⟩ := hF3.res
  have z := hF3.fro
  have Hg3 : Hid (Gr w W3) := hF3.gr
  clear hF3
  go_wp2_with fail
  have hg : ∀ W, Gr w W → (∃ r, Ending.returned (.tuple #[.agg #[.bool false, .int .i64 (k : Nat), .slice none 0 0, .bool false, .int .i64 (k : Nat), .slice none 0 0, .bool false, .bool false, .bool false, .bool false], .bool false]) = .returned r) ∧ ∃ v', W.heap[sb]? = (w.setCell ⟨sb, so, none⟩ v').heap[sb]? ∧ Own W v' xs ∧
      (v'.ownBlock = (Value.slice (some ⟨g, 0, none⟩) n cap).ownBlock ∨ ∃ x, v'.ownBlock = some x ∧ w.heap.size ≤ x) ∧ Chg w W (fun x => x = sb ∨ (Value.slice (some ⟨g, 0, none⟩) n cap).ownBlock = some x) :=
    fun W h => ⟨⟨_, rfl⟩, _, (Hend.out W h).1, (Hend.out W h).2.1, .inl rfl, (Hend.out W h).2.2⟩
  refine bodyPost_ret ?_ rfl (hg _ ?_)
  · rw [results_cell_tmp rfl]
    go_simp
  · repeat (refine Gr.setCell ?_ (by show _ ≤ _ + 1; omega) _)
    exact Hg3.out

end Go.Proofs.Ybulkbopq
