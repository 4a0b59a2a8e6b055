/-
  sharing: where a key stands in a set.
-/
import Derived.Test.YbulkbopqTSet
import Derived.Laws.ResultCell
namespace Go.Proofs.Ybulkbopq
open Go.RowKit Go.Sort Go.Shelf Go.Lib

/-- The slice v shows the list xs; its row lies in block g. -/
def Rd (w : World) (g : Nat) (v : Value) (xs : List (Nat × Nat)) : Prop :=
  (∃ a cap, v = .slice a xs.length cap ∧ (0 < xs.length → a = some ⟨g, 0, none⟩)) ∧ ∀ i p, xs[i]? = some p → Pt w g (i * 11) p.1 ∧ w.cell? ⟨g, i * 11 + 10, none⟩ = some (.int .u64 (p.2 : Nat))

theorem Rd.gr {w w' : World} {g : Nat} {v : Value} {xs : List (Nat × Nat)} (h : Rd w g v xs) (hg : Gr w w') : Rd w' g v xs :=
  ⟨h.1, fun i p hp => ⟨(h.2 i p hp).1.gr hg, hg.cell_of (h.2 i p hp).2⟩⟩

theorem clo1_calls (w : World) (bs br g i n cap k : Nat) (p : Nat × Nat) (hi : i < n) (h1 : w.cell? ⟨bs, 0, none⟩ = some (.slice (some ⟨g, 0, none⟩) n cap)) (h2 : Pt w br 0 k) (h3 : Pt w g (i * 11) p.1) :
    Calls Yba.prog 49 (#[.int .i64 (i : Nat)] ++ #[.pointer (some ⟨bs, 0, none⟩), .pointer (some ⟨br, 0, none⟩)]) w fun e w' => e = .returned (.bool (!decide (p.1 < k))) ∧ Gr w w' := by
  have c := before_calls w g (i * 11) p.1 br 0 k h3 h2
  have hi' : (i : Int) < (n : Int) := by omega
  clear h2 h3
  generalize decide (p.1 < k) = r at *
  go_enter Yba.func49, Yba.ntmps49
  go_wp2_with (go_at_call 50; refine c.mono ?_; rintro e W1 ⟨rfl, g1⟩)
  go_ret
  exact ⟨rfl, g1⟩

theorem clo2_calls (w : World) (bs br bi g i j n cap k : Nat) (p : Nat × Nat) (hi : i + j < n) (hn : n < 1000000) (h1 : w.cell? ⟨bs, 0, none⟩ = some (.slice (some ⟨g, 0, none⟩) n cap)) (h2 : Pt w br 0 k) (h3 : Pt w g ((i + j) * 11) p.1)
    (h4 : w.cell? ⟨bi, 0, none⟩ = some (.int .i64 (i : Nat))) :
    Calls Yba.prog 51 (#[.int .i64 (j : Nat)] ++ #[.pointer (some ⟨br, 0, none⟩), .pointer (some ⟨bs, 0, none⟩), .pointer (some ⟨bi, 0, none⟩)]) w fun e w' => e = .returned (.bool (decide (k < p.1))) ∧ Gr w w' := by
  obtain ⟨t, ht⟩ : ∃ t, i + j = t := ⟨_, rfl⟩
  rw [ht] at h3 hi
  have c := before_calls w br 0 k g (t * 11) p.1 h2 h3
  have hi' : (t : Int) < (n : Int) := by omega
  have hn' : (n : Int) < 1000000 := by omega
  have ht' : (i : Int) + (j : Int) = (t : Int) := by omega
  have hw : IntKind.i64.wrap (t : Int) = (t : Int) := by rw [IntKind.wrap_i64]; omega
  clear h2 h3 ht hi
  generalize decide (k < p.1) = r at *
  go_enter Yba.func51, Yba.ntmps51
  go_wp2_with (go_at_call 50; refine c.mono ?_; rintro e W1 ⟨rfl, g1⟩)
  go_ret
  exact ⟨rfl, g1⟩

theorem three_alloc (w : World) (o1 o2 o3 : Obj) : (((w.alloc o1).alloc o2).alloc o3).heap[w.heap.size]? = some o1 ∧ (((w.alloc o1).alloc o2).alloc o3).heap[w.heap.size + 1]? = some o2 ∧
    (((w.alloc o1).alloc o2).alloc o3).heap[w.heap.size + 1 + 1]? = some o3 ∧ (((w.alloc o1).alloc o2).alloc o3).heap.size = w.heap.size + 3 := by
  have e1 : (w.alloc o1).heap.size = w.heap.size + 1 := by simp
  have e2 : ((w.alloc o1).alloc o2).heap.size = w.heap.size + 1 + 1 := by simp
  refine ⟨?_, ?_, ?_, by simp⟩
  · rw [(((Gr.refl (w.alloc o1)).alloc o2).alloc o3).block (by omega)]
    exact heap_alloc_new w o1
  · rw [((Gr.refl ((w.alloc o1).alloc o2)).alloc o3).block (by omega), ← e1]
    exact heap_alloc_new _ o2
  · rw [← e2]
    exact heap_alloc_new _ o3

theorem Pt.of_block {w : World} {b k : Nat} {t : TypeId} (h : w.heap[b]? = some (.cells #[.bool false, .int .i64 (k : Nat), .slice none 0 0, .bool false, .int .i64 (k : Nat), .slice none 0 0, .bool false, .bool false, .bool false, .bool false] t)) : Pt w b 0 k := by
  refine ⟨?_, ?_, ?_, ?_, ?_, ?_, ?_, ?_, ?_, ?_⟩ <;> (simp only [World.cell?, h]; rfl)

/-- The count behind the first search. -/
theorem count1 (xs : List (Nat × Nat)) (k : Nat) : (List.range xs.length).countP (fun i => !(!decide ((xs.getD i (0, 0)).1 < k))) = below xs k := by
  have := countP_range_get xs (fun p => decide (p.1 < k))
  simpa [below] using this

/-- .. and behind the second. -/
theorem count2 {xs : List (Nat × Nat)} (ho : Ord xs) (k : Nat) : below xs k + (List.range (xs.length - below xs k)).countP (fun t => !decide (k < (xs.getD (below xs k + t) (0, 0)).1)) = below xs (k + 1) := by
  have h1 := countP_range_get (xs.drop (below xs k)) (fun p => !decide (k < p.1))
  rw [List.length_drop] at h1
  have h2 : ∀ t, (xs.drop (below xs k)).getD t (0, 0) = xs.getD (below xs k + t) (0, 0) := fun t => by
    rw [List.getD_eq_getElem?_getD, List.getD_eq_getElem?_getD, List.getElem?_drop]
  simp only [h2] at h1
  rw [h1]
  have h3 : below xs (k + 1) = (xs.take (below xs k)).countP (fun p => decide (p.1 < k + 1)) + (xs.drop (below xs k)).countP (fun p => decide (p.1 < k + 1)) := by
    rw [← List.countP_append, List.take_append_drop]
    rfl
  have h4 : (xs.take (below xs k)).countP (fun p => decide (p.1 < k + 1)) = below xs k := by
    have hl : (xs.take (below xs k)).length = below xs k := by rw [List.length_take]; have := below_le xs k; omega
    conv => rhs; rw [← hl]
    rw [List.countP_eq_length]
    intro a ha
    obtain ⟨i, hi⟩ := List.getElem?_of_mem ha
    have hlt : i < below xs k := by have := (List.getElem?_eq_some_iff.1 hi).1; omega
    rw [List.getElem?_take_of_lt hlt] at hi
    have := (lt_below ho k i a hi).1 hlt
    simp
    omega
  rw [h3, h4]
  congr 1
  apply List.countP_congr
  intro a _
  simp
  omega

set_option maxRecDepth 100000 in
set_option maxHeartbeats 400000 in
theorem sharing_calls (w : World) (g : Nat) (v : Value) (xs : List (Nat × Nat)) (k : Nat) (hr : Rd w g v xs) (ho : Ord xs) (hn : xs.length ≤ 256) :
    Calls Yba.prog 44 #[v, .agg #[.bool false, .int .i64 (k : Nat), .slice none 0 0, .bool false, .int .i64 (k : Nat), .slice none 0 0, .bool false, .bool false, .bool false, .bool false]] w
      fun e w' => e = .returned (.tuple #[.int .i64 (below xs k : Nat), .int .i64 (below xs (k + 1) : Nat)]) ∧ Gr w w' := by
  obtain ⟨⟨a, cap, rfl, ha⟩, hc⟩ := hr
  obtain ⟨n, hn0⟩ : ∃ n, xs.length = n := ⟨_, rfl⟩
  rw [hn0] at ha hn
  have hsz : n < 4611686018427387904 := by omega
  -- the world in which the first search begins
  obtain ⟨W0, hW0⟩ : ∃ W, W = ((w.alloc (.cells #[.slice a n cap] 91)).alloc (.cells #[.bool false, .int .i64 (k : Nat), .slice none 0 0, .bool false, .int .i64 (k : Nat), .slice none 0 0, .bool false, .bool false, .bool false, .bool false] 136)).alloc (.cells #[.int .i64 0] 3) := ⟨_, rfl⟩
  have hG0 : Gr w W0 := by rw [hW0]; exact (((Gr.refl w).alloc _).alloc _).alloc _
  obtain ⟨b0, b1, b2, hsize⟩ := three_alloc w (.cells #[.slice a n cap] 91) (.cells #[.bool false, .int .i64 (k : Nat), .slice none 0 0, .bool false, .int .i64 (k : Nat), .slice none 0 0, .bool false, .bool false, .bool false, .bool false] 136) (.cells #[.int .i64 0] 3)
  rw [← hW0] at b0 b1 b2 hsize
  have x0 : W0.cell? ⟨w.heap.size, 0, none⟩ = some (.slice a n cap) := by simp only [World.cell?, b0]; rfl
  have x1 : Pt W0 (w.heap.size + 1) 0 k := Pt.of_block b1
  have hget : ∀ i, i < n → xs[i]? = some (xs.getD i (0, 0)) := fun i hi => by simp [List.getD_eq_getElem?_getD, List.getElem?_eq_getElem (show i < xs.length by omega)]
  have S1 := Any.sort_Search Yba.search 49 #[.pointer (some ⟨w.heap.size, 0, none⟩), .pointer (some ⟨w.heap.size + 1, 0, none⟩)] n (fun i => !decide ((xs.getD i (0, 0)).1 < k)) W0 (enters_of Yba.func49 (by kernel_rfl) rfl) hsz
    (fun m os i hi => by
      have e := ha (by omega)
      subst e
      have gr : Gr W0 (grow (W0.drewN m) os) := ⟨m, os, rfl⟩
      exact clo1_calls _ w.heap.size (w.heap.size + 1) g i n cap k (xs.getD i (0, 0)) hi (gr.cell_of x0) (x1.gr gr) (((hc i _ (hget i hi)).1.gr hG0).gr gr))
    (fun i j hij hj hp => by
      simp only [Bool.not_eq_true', decide_eq_false_iff_not] at hp ⊢
      rcases Nat.lt_or_eq_of_le hij with h | h
      · have := List.pairwise_iff_getElem.1 ho.1 i j (by omega) (by omega) h
        simp only [List.getD_eq_getElem?_getD, List.getElem?_eq_getElem (show i < xs.length by omega), List.getElem?_eq_getElem (show j < xs.length by omega), Option.getD_some] at hp ⊢
        omega
      · subst h; exact hp)
  have hcount1 := count1 xs k
  rw [hn0] at hcount1
  rw [hcount1] at S1
  change Calls Yba.prog 48 _ _ _ at S1
  obtain ⟨i, hi0⟩ : ∃ i, below xs k = i := ⟨_, rfl⟩
  have hin : i ≤ n := by rw [← hi0, ← hn0]; exact below_le xs k
  have hcount2 := count2 ho k
  rw [hi0, hn0] at hcount2
  rw [hi0] at S1 ⊢
  -- the second search, in whatever world in which it begins
  have S2 : ∀ W, Gr W0 W ∨ True → W.cell? ⟨w.heap.size, 0, none⟩ = some (.slice a n cap) → Pt W (w.heap.size + 1) 0 k → W.cell? ⟨w.heap.size + 1 + 1, 0, none⟩ = some (.int .i64 (i : Nat)) → (∀ t p, xs[t]? = some p → Pt W g (t * 11) p.1) →
      Calls Yba.prog 48 #[.int .i64 ((n - i : Nat) : Nat), .func (.func 51) #[] #[.pointer (some ⟨w.heap.size + 1, 0, none⟩), .pointer (some ⟨w.heap.size, 0, none⟩), .pointer (some ⟨w.heap.size + 1 + 1, 0, none⟩)]] W
        fun e w' => e = .returned (.int .i64 ((List.range (n - i)).countP (fun t => !decide (k < (xs.getD (i + t) (0, 0)).1)) : Nat)) ∧ ∃ q os, w' = grow (W.drewN q) os := by
    intro W _ y0 y1 y2 y3
    exact Any.sort_Search Yba.search 51 _ (n - i) (fun t => decide (k < (xs.getD (i + t) (0, 0)).1)) W (enters_of Yba.func51 (by kernel_rfl) rfl) (by omega)
      (fun m os t ht => by
        have e := ha (by omega)
        subst e
        have gr : Gr W (grow (W.drewN m) os) := ⟨m, os, rfl⟩
        exact clo2_calls _ w.heap.size (w.heap.size + 1) (w.heap.size + 1 + 1) g i t n cap k (xs.getD (i + t) (0, 0)) (by omega) (by omega) (gr.cell_of y0) (y1.gr gr) ((y3 (i + t) _ (hget (i + t) (by omega))).gr gr) (gr.cell_of y2))
      (fun s t hst ht hp => by
        simp only [decide_eq_true_eq] at hp ⊢
        rcases Nat.lt_or_eq_of_le hst with h | h
        · have := List.pairwise_iff_getElem.1 ho.1 (i + s) (i + t) (by omega) (by omega) (by omega)
          simp only [List.getD_eq_getElem?_getD, List.getElem?_eq_getElem (show i + s < xs.length by omega), List.getElem?_eq_getElem (show i + t < xs.length by omega), Option.getD_some] at hp ⊢
          omega
        · subst h; exact hp)
  obtain ⟨c2, hc2⟩ : ∃ c, (List.range (n - i)).countP (fun t => !decide (k < (xs.getD (i + t) (0, 0)).1)) = c := ⟨_, rfl⟩
  rw [hc2] at S2 hcount2
  rw [← hcount2]
  have hcb : c2 ≤ n - i := by
    rw [← hc2]
    have := List.countP_le_length (p := fun t => !decide (k < (xs.getD (i + t) (0, 0)).1)) (l := List.range (n - i))
    simpa using this
  rw [hn0]
  have hni : ((n - i : Nat) : Int) = (n : Int) - (i : Int) := by omega
  rw [hni] at S2
  have hmix := mixed
  have HW0 : Hid (W0 = ((w.alloc (.cells #[.slice a n cap] 91)).alloc (.cells #[.bool false, .int .i64 (k : Nat), .slice none 0 0, .bool false, .int .i64 (k : Nat), .slice none 0 0, .bool false, .bool false, .bool false, .bool false] 136)).alloc (.cells #[.int .i64 0] 3)) := hW0
  have S1' : Calls Yba.prog 48 #[.int .i64 (n : Nat), .func (.func 49) #[] #[.pointer (some ⟨w.heap.size, 0, none⟩), .pointer (some ⟨w.heap.size + 1, 0, none⟩)]] W0
      fun e w' => e = .returned (.int .i64 (i : Nat)) ∧ Gr W0 w' ∧ w'.cell? ⟨w.heap.size + 1 + 1, 0, none⟩ = some (.int .i64 0) ∧ w'.frozen? ⟨w.heap.size + 1 + 1, 0, none⟩ = false :=
    S1.mono fun e w' ⟨he, hg⟩ => by
      have hb : w'.heap[w.heap.size + 1 + 1]? = some (.cells #[.int .i64 0] 3) := by rw [Gr.block hg (by omega)]; exact b2
      exact ⟨he, hg, by simp only [World.cell?, hb]; rfl, by simp [World.frozen?, hb]⟩
  have hi' : (i : Int) ≤ (n : Int) := by omega
  have hn' : (n : Int) ≤ 256 := by omega
  have hc' : (c2 : Int) ≤ (n : Int) - (i : Int) := by omega
  have HG : Hid (Gr w W0) := hG0
  have hw1 : IntKind.i64.wrap ((n : Int) - (i : Int)) = (n : Int) - (i : Int) := by rw [IntKind.wrap_i64]; omega
  have hw2 : IntKind.i64.wrap ((i : Int) + (c2 : Int)) = (i : Int) + (c2 : Int) := by rw [IntKind.wrap_i64]; omega
  have hX : ∀ W1, Gr W0 W1 → ∀ n1 os1, (grow ((W1.setCell ⟨w.heap.size + 1 + 1, 0, none⟩ (.int .i64 (i : Nat))).drewN n1) os1).cell? ⟨w.heap.size, 0, none⟩ = some (.slice a n cap) ∧
      (grow ((W1.setCell ⟨w.heap.size + 1 + 1, 0, none⟩ (.int .i64 (i : Nat))).drewN n1) os1).cell? ⟨w.heap.size + 1 + 1, 0, none⟩ = some (.int .i64 (i : Nat)) ∧
      Calls Yba.prog 48 #[.int .i64 ((n : Int) - (i : Int)), .func (.func 51) #[] #[.pointer (some ⟨w.heap.size + 1, 0, none⟩), .pointer (some ⟨w.heap.size, 0, none⟩), .pointer (some ⟨w.heap.size + 1 + 1, 0, none⟩)]] (grow ((W1.setCell ⟨w.heap.size + 1 + 1, 0, none⟩ (.int .i64 (i : Nat))).drewN n1) os1)
        fun e w' => e = .returned (.int .i64 (c2 : Nat)) ∧ ∃ q os, w' = grow ((grow ((W1.setCell ⟨w.heap.size + 1 + 1, 0, none⟩ (.int .i64 (i : Nat))).drewN n1) os1).drewN q) os := by
    intro W1 g1 n1 os1
    obtain ⟨W3, h3⟩ : ∃ W3, W3 = grow ((W1.setCell ⟨w.heap.size + 1 + 1, 0, none⟩ (.int .i64 (i : Nat))).drewN n1) os1 := ⟨_, rfl⟩
    rw [← h3]
    have gr : Gr (W1.setCell ⟨w.heap.size + 1 + 1, 0, none⟩ (.int .i64 (i : Nat))) W3 := ⟨n1, os1, h3⟩
    have hs1 := g1.size
    have blk : ∀ x, x < W0.heap.size → x ≠ w.heap.size + 1 + 1 → W3.heap[x]? = W0.heap[x]? := fun x hx hne => by
      rw [gr.block (by simp [World.setCell]; omega), Below.heap_setCell _ _ _ _ hne, g1.block hx]
    have cel : ∀ b o v, W0.cell? ⟨b, o, none⟩ = some v → b ≠ w.heap.size + 1 + 1 → W3.cell? ⟨b, o, none⟩ = some v := fun b o v hv hne => by
      have := World.block_lt_of_cell? _ _ hv
      rw [← hv]
      simp only [World.cell?, blk b this hne]
    have ptl : ∀ b o k, Pt W0 b o k → b ≠ w.heap.size + 1 + 1 → Pt W3 b o k := fun b o k hp hne => by
      obtain ⟨h0, h1, h2, h3, h4, h5, h6, h7, h8, h9⟩ := hp
      exact ⟨cel _ _ _ h0 hne, cel _ _ _ h1 hne, cel _ _ _ h2 hne, cel _ _ _ h3 hne, cel _ _ _ h4 hne, cel _ _ _ h5 hne, cel _ _ _ h6 hne, cel _ _ _ h7 hne, cel _ _ _ h8 hne, cel _ _ _ h9 hne⟩
    have y2 : W3.cell? ⟨w.heap.size + 1 + 1, 0, none⟩ = some (.int .i64 (i : Nat)) := by
      refine gr.cell_of ?_
      have hb : W1.heap[w.heap.size + 1 + 1]? = some (.cells #[.int .i64 0] 3) := by rw [g1.block (by omega)]; exact b2
      simp [World.cell?, World.setCell, Array.getElem?_modify, hb]
    have y0 := cel _ _ _ x0 (by omega)
    refine ⟨y0, y2, S2 W3 (.inr trivial) y0 (ptl _ _ _ x1 (by omega)) y2 fun t p hp => ?_⟩
    have hpt := (hc t p hp).1
    have hgl : g < w.heap.size := World.block_lt_of_cell? _ _ hpt.1
    exact ptl _ _ _ (hpt.gr hG0) (by omega)
  clear hcount1 hcount2 hc2 hget hi0 ho S1 S2 hW0 hc x0 x1 b0 b1 b2 hcb hin hn hni hsz hG0 ha
  go_enter Yba.func44, Yba.ntmps44
  go_wp2_with (go_at_call 48; rw [← HW0.out]; refine S1'.mono ?_; rintro e W1 ⟨rfl, g1, y2, z2⟩)
  have q0 := fun n1 os1 => (hX W1 g1 n1 os1).1
  have q1 := fun n1 os1 => (hX W1 g1 n1 os1).2.1
  have S := fun n1 os1 => (hX W1 g1 n1 os1).2.2
  have Hg2 : Hid (Gr w (W1.setCell ⟨w.heap.size + 1 + 1, 0, none⟩ (.int .i64 (i : Nat)))) := (HG.out.trans g1).setCell (by show _ ≤ _ + 1 + 1; omega) _
  have Hb : Hid (∀ W, Gr (W1.setCell ⟨w.heap.size + 1 + 1, 0, none⟩ (.int .i64 (i : Nat))) W → W.frozen? ⟨w.heap.size + 1 + 1, 0, none⟩ = false) := fun W hW => by
    have e : W.heap[w.heap.size + 1 + 1]? = (W1.setCell ⟨w.heap.size + 1 + 1, 0, none⟩ (.int .i64 (i : Nat))).heap[w.heap.size + 1 + 1]? := hW.block (by have := World.block_lt_of_cell? _ _ y2; simpa [World.setCell] using this)
    have z : (W1.setCell ⟨w.heap.size + 1 + 1, 0, none⟩ (.int .i64 (i : Nat))).frozen? ⟨w.heap.size + 1 + 1, 0, none⟩ = false := by simpa using z2
    simpa only [World.frozen?, e] using z
  clear hX y2 z2 g1
  generalize W1.setCell ⟨w.heap.size + 1 + 1, 0, none⟩ (.int .i64 (i : Nat)) = W2 at *
  go_quiet_grown (first | (go_at_call 48; refine Calls.grown_of (S _ _)))
  have z3 := Hb.out _ ⟨nq, osq, rfl⟩
  have q3 := q1 nq osq
  have Hg3 : Hid (Gr w (grow (W2.drewN nq) osq)) := Hg2.out.trans ⟨nq, osq, rfl⟩
  clear q0 q1 S
  generalize grow (W2.drewN nq) osq = W4 at *
  go_wp2_with fail
  refine bodyPost_ret (v := .tuple #[.int .i64 (i : Nat), .int .i64 ((i : Int) + (c2 : Int))]) ?_ rfl ⟨by rw [Int.natCast_add], Hg3.out.setCell (by show _ ≤ _ + 1 + 1; omega) _⟩
  rw [results_cell_tmp rfl]
  go_simp

end Go.Proofs.Ybulkbopq
