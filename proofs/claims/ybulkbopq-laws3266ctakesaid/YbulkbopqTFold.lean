/-
  addLatest and addFirst at one range of one key.
-/
import Derived.Test.YbulkbopqTAddN
import Derived.Deep.RegionHeld3
namespace Go.Proofs.Ybulkbopq
open Go.RowKit Go.Sort

theorem ins_len (kp : Nat → Nat → Nat) (xs : List (Nat × Nat)) (k s : Nat) : (ins kp xs k s).length ≤ xs.length + 1 := by
  unfold ins
  split
  · rw [List.length_append, List.length_cons, List.length_take, List.length_drop]
    omega
  · rw [List.length_set]
    omega

/-- The one range that the law hands over: the element (k, s) in block rb. -/
def El (w : World) (rb k s : Nat) : Prop := Pt w rb 0 k ∧ w.cell? ⟨rb, 10, none⟩ = some (.int .u64 (s : Nat))
theorem El.gr {w w' : World} {rb k s : Nat} (h : El w rb k s) (hg : Gr w w') : El w' rb k s := ⟨h.1.gr hg, hg.cell_of h.2⟩
theorem El.new (w : World) (k s : Nat) : El (w.alloc (.cells #[.bool false, .int .i64 (k : Nat), .slice none 0 0, .bool false, .int .i64 (k : Nat), .slice none 0 0, .bool false, .bool false, .bool false, .bool false, .int .u64 (s : Nat)] 138)) w.heap.size k s := by
  have hb := heap_alloc_new w (.cells #[.bool false, .int .i64 (k : Nat), .slice none 0 0, .bool false, .int .i64 (k : Nat), .slice none 0 0, .bool false, .bool false, .bool false, .bool false, .int .u64 (s : Nat)] 138)
  refine ⟨⟨?_, ?_, ?_, ?_, ?_, ?_, ?_, ?_, ?_, ?_⟩, ?_⟩ <;> (simp only [World.cell?, hb]; rfl)

/-- What add leaves, seen from a world that add's own has grown out of. -/
theorem Out.of_gr {w W W' : World} {sb so : Nat} {v v' : Value} {xs : List (Nat × Nat)} (hg : Gr w W) (h : Out W W' sb so v v' xs) (sl : sb < w.heap.size) : Out w W' sb so v v' xs := by
  have hz := hg.size
  refine ⟨h.blk.trans (setCell_block (hg.block sl)), h.own, ?_, (hg.chg (fun _ => False)).trans h.chg (fun _ _ e => e.elim) (fun _ _ e => e)⟩
  rcases h.at' with e | ⟨x, e, hx⟩
  · exact .inl e
  · exact .inr ⟨x, e, by omega⟩

set_option maxRecDepth 100000 in
set_option maxHeartbeats 1000000 in
theorem latest_calls (w : World) (r : Value) (sb so rb rc k s q : Nat) (v : Value) (xs : List (Nat × Nat)) (hel : El w rb k s)
    (hc : w.cell? ⟨sb, so, none⟩ = some v) (hf : w.frozen? ⟨sb, so, none⟩ = false) (hown : Own w v xs) (hne : v.ownBlock ≠ some sb) (ho : Ord xs) (hn : xs.length ≤ 256) :
    Calls Yba.prog 24 #[r, .pointer (some ⟨sb, so, none⟩), .slice (some ⟨rb, 0, none⟩) 1 rc, .int .u64 (q : Nat)] w fun e w' => e = .returned (.tuple #[]) ∧ ∃ v', Out w w' sb so v v' (ins max xs k (max q s)) := by
  have sl : sb < w.heap.size := World.block_lt_of_cell? _ _ hc
  have hl := ins_len max xs k (max q s)
  obtain ⟨mq, Hmq⟩ : ∃ mq, Hid (max q s = mq) := ⟨_, rfl⟩
  have cM : ∀ W, Calls Yba.prog 35 #[.int .u64 (q : Nat), .int .u64 (s : Nat)] W fun e w' => e = .returned (.int .u64 (mq : Nat)) ∧ w' = W := fun W => by rw [← Hmq.out]; exact max_calls W q s
  have cA : ∀ W, Gr w W → Calls Yba.prog 34 #[.pointer (some ⟨sb, so, none⟩), .agg #[.bool false, .int .i64 (k : Nat), .slice none 0 0, .bool false, .int .i64 (k : Nat), .slice none 0 0, .bool false, .bool false, .bool false, .bool false], .int .u64 (mq : Nat), .func (.func 35) #[] #[]] W
      fun e w' => (∃ r, e = .returned r) ∧ ∃ (a : Option Addr) (m c : Nat), (m : Int) ≤ 257 ∧ Hid (Out w w' sb so v (.slice a m c) (ins max xs k (max q s))) ∧ w'.cell? ⟨sb, so, none⟩ = some (.slice a m c) := fun W hg => by
    have hf' : W.frozen? ⟨sb, so, none⟩ = false := by rw [← hf]; simp only [World.frozen?, hg.block sl]
    rw [← Hmq.out]
    refine (add_calls W sb so k (max q s) 35 v xs max (enters_of Yba.func35 (by kernel_rfl) rfl) max_calls (fun a b => Nat.max_comm a b) (hg.cell_of hc) hf' (hown.gr hg) hne ho hn).mono fun e w' ⟨hr, v', hO⟩ => ⟨hr, ?_⟩
    have hO' := hO.of_gr hg sl
    obtain ⟨a, c, rfl, _⟩ := hO'.own.shape
    refine ⟨a, _, c, by omega, hO', ?_⟩
    have hb := hO'.blk
    have h1 : (w.setCell ⟨sb, so, none⟩ (.slice a (ins max xs k (max q s)).length c)).cell? ⟨sb, so, none⟩ = some (.slice a (ins max xs k (max q s)).length c) := cell_setCell_same hc
    rw [← h1]
    simp only [World.cell?, hb]
  have Hel : Hid (El w rb k s) := hel
  clear hl hel hc hf hown hne ho hn sl
  go_enter Yba.func24, Yba.ntmps24
  go_wp2_with fail
  go_loopg [12] 1 (fun gm si wr => ∃ t, t ≤ 1 ∧ gm = 1 - t ∧ si = .int .i64 (t : Nat) ∧ ((t = 0 ∧ wr = w) ∨ (t = 1 ∧ ∃ (a : Option Addr) (m c : Nat), (m : Int) ≤ 257 ∧ Hid (Out w wr sb so v (.slice a m c) (ins max xs k (max q s))) ∧ wr.cell? ⟨sb, so, none⟩ = some (.slice a m c))))
  case atStart => exact ⟨0, by omega, rfl, rfl, .inl ⟨rfl, rfl⟩⟩
  case round =>
    obtain ⟨t, _, rfl, rfl, h⟩ := hrel
    rcases h with ⟨rfl, rfl⟩ | ⟨rfl, a, m, c, hm, hO, hcell⟩
    · obtain ⟨a0, a1, a2, a3, a4, a5, a6, a7, a8, a9⟩ := Hel.out.1
      have a10 := Hel.out.2
      obtain ⟨w, rfl⟩ : ∃ W, W = wr := ⟨_, rfl⟩
      go_wp2_with fail
      have hE := El.new w k s
      have Hg : Hid (Gr w (w.alloc (.cells #[.bool false, .int .i64 (k : Nat), .slice none 0 0, .bool false, .int .i64 (k : Nat), .slice none 0 0, .bool false, .bool false, .bool false, .bool false, .int .u64 (s : Nat)] 138))) := (Gr.refl w).alloc _
      clear a0 a1 a2 a3 a4 a5 a6 a7 a8 a9 a10
      generalize w.alloc (.cells #[.bool false, .int .i64 (k : Nat), .slice none 0 0, .bool false, .int .i64 (k : Nat), .slice none 0 0, .bool false, .bool false, .bool false, .bool false, .int .u64 (s : Nat)] 138) = W1 at *
      obtain ⟨⟨a0, a1, a2, a3, a4, a5, a6, a7, a8, a9⟩, a10⟩ := hE
      go_region_with first | (go_at_call 35; refine (cM _).mono ?_; rintro e w' ⟨rfl, rfl⟩) | (go_at_call 34; refine (cA _ (by repeat (first | exact Hg.out | refine Gr.drew ?_ | refine Gr.drewN ?_ _))).mono ?_; rintro e w' ⟨⟨r', rfl⟩, a, m, c, hm, hO, hcell⟩)
      all_goals go_wp2_with fail
      all_goals go_roundg 0
      all_goals first | (show (_ : Nat) < _; omega) | exact ⟨1, by omega, rfl, rfl, .inr ⟨rfl, a, m, c, hm, hO, hcell⟩⟩
    · have hm' : ¬ (1000 : Int) < (m : Int) := by omega
      go_wp2_with fail
      go_loopg [] 0 (fun gm wx => wx = wr)
      case atStart => rfl
      case round =>
        obtain rfl := hrel
        go_wp2_with fail
        go_end0
        exact ⟨rfl, _, hO.out⟩

set_option maxRecDepth 100000 in
set_option maxHeartbeats 1000000 in
theorem first_calls (w : World) (sb so rb rc k s q : Nat) (v : Value) (xs : List (Nat × Nat)) (hel : El w rb k s)
    (hc : w.cell? ⟨sb, so, none⟩ = some v) (hf : w.frozen? ⟨sb, so, none⟩ = false) (hown : Own w v xs) (hne : v.ownBlock ≠ some sb) (ho : Ord xs) (hn : xs.length ≤ 256) :
    Calls Yba.prog 25 #[.pointer (some ⟨sb, so, none⟩), .slice (some ⟨rb, 0, none⟩) 1 rc, .int .u64 (q : Nat)] w fun e w' => e = .returned (.tuple #[]) ∧ ∃ v', Out w w' sb so v v' (ins early xs k (early q s)) := by
  have sl : sb < w.heap.size := World.block_lt_of_cell? _ _ hc
  have hl := ins_len early xs k (early q s)
  obtain ⟨mq, Hmq⟩ : ∃ mq, Hid (early q s = mq) := ⟨_, rfl⟩
  have cM : ∀ W, Calls Yba.prog 39 #[.int .u64 (q : Nat), .int .u64 (s : Nat)] W fun e w' => e = .returned (.int .u64 (mq : Nat)) ∧ w' = W := fun W => by rw [← Hmq.out]; exact early_calls W q s
  have cA : ∀ W, Gr w W → Calls Yba.prog 34 #[.pointer (some ⟨sb, so, none⟩), .agg #[.bool false, .int .i64 (k : Nat), .slice none 0 0, .bool false, .int .i64 (k : Nat), .slice none 0 0, .bool false, .bool false, .bool false, .bool false], .int .u64 (mq : Nat), .func (.func 39) #[] #[]] W
      fun e w' => (∃ r, e = .returned r) ∧ ∃ (a : Option Addr) (m c : Nat), (m : Int) ≤ 257 ∧ Hid (Out w w' sb so v (.slice a m c) (ins early xs k (early q s))) ∧ w'.cell? ⟨sb, so, none⟩ = some (.slice a m c) := fun W hg => by
    have hf' : W.frozen? ⟨sb, so, none⟩ = false := by rw [← hf]; simp only [World.frozen?, hg.block sl]
    rw [← Hmq.out]
    refine (add_calls W sb so k (early q s) 39 v xs early (enters_of Yba.func39 (by kernel_rfl) rfl) early_calls early_comm (hg.cell_of hc) hf' (hown.gr hg) hne ho hn).mono fun e w' ⟨hr, v', hO⟩ => ⟨hr, ?_⟩
    have hO' := hO.of_gr hg sl
    obtain ⟨a, c, rfl, _⟩ := hO'.own.shape
    refine ⟨a, _, c, by omega, hO', ?_⟩
    have hb := hO'.blk
    have h1 : (w.setCell ⟨sb, so, none⟩ (.slice a (ins early xs k (early q s)).length c)).cell? ⟨sb, so, none⟩ = some (.slice a (ins early xs k (early q s)).length c) := cell_setCell_same hc
    rw [← h1]
    simp only [World.cell?, hb]
  have Hel : Hid (El w rb k s) := hel
  clear hl hel hc hf hown hne ho hn sl
  go_enter Yba.func25, Yba.ntmps25
  go_wp2_with fail
  go_loopg [10] 1 (fun gm si wr => ∃ t, t ≤ 1 ∧ gm = 1 - t ∧ si = .int .i64 (t : Nat) ∧ ((t = 0 ∧ wr = w) ∨ (t = 1 ∧ ∃ (a : Option Addr) (m c : Nat), (m : Int) ≤ 257 ∧ Hid (Out w wr sb so v (.slice a m c) (ins early xs k (early q s))) ∧ wr.cell? ⟨sb, so, none⟩ = some (.slice a m c))))
  case atStart => exact ⟨0, by omega, rfl, rfl, .inl ⟨rfl, rfl⟩⟩
  case round =>
    obtain ⟨t, _, rfl, rfl, h⟩ := hrel
    rcases h with ⟨rfl, rfl⟩ | ⟨rfl, a, m, c, hm, hO, hcell⟩
    · obtain ⟨a0, a1, a2, a3, a4, a5, a6, a7, a8, a9⟩ := Hel.out.1
      have a10 := Hel.out.2
      obtain ⟨w, rfl⟩ : ∃ W, W = wr := ⟨_, rfl⟩
      go_wp2_with fail
      have hE := El.new w k s
      have Hg : Hid (Gr w (w.alloc (.cells #[.bool false, .int .i64 (k : Nat), .slice none 0 0, .bool false, .int .i64 (k : Nat), .slice none 0 0, .bool false, .bool false, .bool false, .bool false, .int .u64 (s : Nat)] 138))) := (Gr.refl w).alloc _
      clear a0 a1 a2 a3 a4 a5 a6 a7 a8 a9 a10
      generalize w.alloc (.cells #[.bool false, .int .i64 (k : Nat), .slice none 0 0, .bool false, .int .i64 (k : Nat), .slice none 0 0, .bool false, .bool false, .bool false, .bool false, .int .u64 (s : Nat)] 138) = W1 at *
      obtain ⟨⟨a0, a1, a2, a3, a4, a5, a6, a7, a8, a9⟩, a10⟩ := hE
      go_region_with first | (go_at_call 39; refine (cM _).mono ?_; rintro e w' ⟨rfl, rfl⟩) | (go_at_call 34; refine (cA _ (by repeat (first | exact Hg.out | refine Gr.drew ?_ | refine Gr.drewN ?_ _))).mono ?_; rintro e w' ⟨⟨r', rfl⟩, a, m, c, hm, hO, hcell⟩)
      all_goals go_wp2_with fail
      all_goals go_roundg 0
      all_goals first | (show (_ : Nat) < _; omega) | exact ⟨1, by omega, rfl, rfl, .inr ⟨rfl, a, m, c, hm, hO, hcell⟩⟩
    · have hm' : ¬ (1000 : Int) < (m : Int) := by omega
      go_wp2_with fail
      go_loopg [] 0 (fun gm wx => wx = wr)
      case atStart => rfl
      case round =>
        obtain rfl := hrel
        go_wp2_with fail
        go_end0
        exact ⟨rfl, _, hO.out⟩

end Go.Proofs.Ybulkbopq
