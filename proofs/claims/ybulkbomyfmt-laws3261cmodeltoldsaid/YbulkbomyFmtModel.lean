/-
  LawS3261CModel: the walk.
-/
import Derived.Test.YbulkbomyFmtModelFn
import Derived.Test.YbulkbomyFmtBuilt
import Derived.Laws.MakeOwn
import Derived.Laws.CopyRow
import Derived.Laws.IdiomCopy
namespace Go.Proofs.YbulkbomyFmt
open Go.RowKit

set_option maxRecDepth 100000 in
set_option maxHeartbeats 400000 in
theorem model_none (w : World) (a : Option Addr) (cap : Nat) : Calls Ybaf.prog 12 #[.slice a 0 cap] w fun e w' => ModelOut w [] e w' := by
  have z34 := zero34
  have z35 := zero35
  go_enter Ybaf.func12, Ybaf.ntmps12
  go_wp2_with fail
  have hst : StM w ((w.alloc (.cells zV 34)).alloc (.cells zS 35)) w.heap.size (fun _ => .slice none 0 0) [] := by
    refine ⟨(Fam.zero _ _ _).congr fun i hi => by simp [Pl.vals], ?_, ?_, ((Below.refl _ w).alloc (Nat.le_refl _) _).alloc (by simp) _, by simp⟩
    · exact (Arr.made w _ 34).of_block (Below.heap_alloc _ _ _ (by simp))
    · have := Arr.made (w.alloc (.cells zV 34)) (.bool false) 35
      rw [World.size_alloc] at this
      exact this
  generalize (w.alloc (.cells zV 34)).alloc (.cells zS 35) = W at *
  generalize hvs : (fun _ : Nat => Value.slice none 0 0) = vs at *
  generalize hes : ([] : List (Int × List Int)) = es at *
  refine wp_loop_rounds 1 ?_
  rw [rounds_succ]
  go_wp2_with fail
  refine wp_region_quiet_lit (by kernel_rfl) (by kernel_rfl) ?_
  refine wpQuiet_load_arr rfl 34 _ rfl w.heap.size 0 (cellsOf vs) _ rfl (fun _ ⟨n, e⟩ => e ▸ (hst.facts n).1) Ybaf.underlying34 rfl (by rw [info34, cellsOf_len]) ?_
  refine wpQuiet_load_arr rfl 35 _ rfl (w.heap.size + 1) 0 (cellsOf fun c => .bool (Pl.seen es c)) _ rfl (fun _ ⟨n, e⟩ => e ▸ (hst.facts n).2.1) Ybaf.underlying35 rfl (by rw [info35, cellsOf_len]) ?_
  quiet_step (fail)
  refine wpQuiet_store_arr rfl 34 _ _ rfl w.heap.size 0 (cellsOf vs) rfl rfl (fun _ ⟨n, e⟩ => e ▸ ⟨(hst.facts n).1, (hst.facts n).2.2.1⟩) (by rw [info34]; simp [cellsOf_len]) (oneV hst.1) ?_
  refine wpQuiet_store_arr rfl 35 _ _ rfl (w.heap.size + 1) 0 (cellsOf fun c => .bool (Pl.seen es c)) rfl rfl (fun _ ⟨n, e⟩ => e ▸ ⟨(hst.facts n).2.1, (hst.facts n).2.2.2⟩) (by rw [info35]; simp [cellsOf_len]) (oneS _) ?_
  quiet_step (fail)
  quiet_step (fail)
  quiet_step (fail)
  refine wpQuiet_nil ?_
  intro _ hw'
  obtain ⟨nq, hw''⟩ := hw'
  subst hw''
  go_wp2
  refine bodyPost_ret (results_model Ybaf.results12 rfl rfl (hst.loads nq).1 (hst.loads nq).2) rfl ?_
  have hcnt : Pl.cnt es = 0 := by rw [← hes]; rfl
  have h := hst.out nq (bs := []) (i := 0) (ok := true) (by rw [← hes]; rfl) (off := 0) rfl
  rw [hcnt] at h
  exact h

theorem model_any (w : World) (a : Option Addr) (cap : Nat) (bs : List Int) (hmax : bs.length ≤ 4096) (hcap : bs.length ≤ cap) (hcm : cap ≤ maxLen) (hbytes : ∀ x ∈ bs, 0 ≤ x ∧ x ≤ 255)
    (hcell : 0 < bs.length → ∃ pb po, a = some ⟨pb, po, none⟩ ∧ ∀ j, j < bs.length → w.cell? ⟨pb, po + j, none⟩ = some (.int .u8 (bs.getD j 0))) :
    Calls Ybaf.prog 12 #[.slice a bs.length cap] w fun e w' => ModelOut w bs e w' := by
  rcases Nat.eq_zero_or_pos bs.length with h0 | h0
  · have hn : bs = [] := List.eq_nil_of_length_eq_zero h0
    subst hn
    exact model_none w a cap
  · obtain ⟨pb, po, rfl, hc⟩ := hcell h0
    exact model_some w pb po cap bs h0 hmax hcap hcm hbytes hc

theorem setRow_new (w : World) (c cs : Array Value) (t : TypeId) : (w.alloc (.cells c t)).setRow w.heap.size cs = w.alloc (.cells cs t) := by
  unfold World.setRow World.alloc
  congr 1
  apply Array.ext_getElem?
  intro i
  simp only [Array.getElem?_modify, Array.getElem?_push]
  by_cases h : i = w.heap.size
  · subst h; simp
  · have h' : ¬ w.heap.size = i := fun e => h e.symm
    simp [h, h']

/-- 'cp := make([]byte, len(data)); copy(cp, data)', as the worlds go. -/
theorem copy_any (w : World) (a : Option Addr) (cap : Nat) (bs : List Int) (hmax : bs.length ≤ 4096)
    (hcell : 0 < bs.length → ∃ pb po, a = some ⟨pb, po, none⟩ ∧ ∀ j, j < bs.length → w.cell? ⟨pb, po + j, none⟩ = some (.int .u8 (bs.getD j 0))) :
    (Instr.makeSlice 22 (.int .i64 bs.length) (.int .i64 bs.length)).run Ybaf.prog w = .ok (.slice (some ⟨w.heap.size, 0, none⟩) bs.length bs.length) (w.alloc (.cells (madeCells #[Value.int .u8 0] bs.length) 5)) ∧
    (Builtin.copy_ #[22, 22] 3 #[.slice (some ⟨w.heap.size, 0, none⟩) bs.length bs.length, .slice a bs.length cap]).run Ybaf.prog (w.alloc (.cells (madeCells #[Value.int .u8 0] bs.length) 5)) =
      .ok (goInt bs.length) (w.alloc (.cells (bs.map (Value.int .u8)).toArray 5)) := by
  obtain ⟨i, hi, hs, hb, hz⟩ := Ybaf.info5'
  constructor
  · have hmk := run_make (P := Ybaf.prog) w 22 5 i _ Ybaf.underlying22 hi hz .i64 .i64 bs.length bs.length (by omega) (by omega) (by rw [hb]; omega) (by omega)
    rw [hs, Int.toNat_natCast, Nat.mul_one, show (Value.int .u8 0).cells = #[Value.int .u8 0] from rfl] at hmk
    exact hmk
  · rcases Nat.eq_zero_or_pos bs.length with h0 | h0
    · have hn : bs = [] := List.eq_nil_of_length_eq_zero h0
      subst hn
      have h := run_copy_none (P := Ybaf.prog) (w.alloc (.cells #[] 5)) 22 22 3 5 (some ⟨w.heap.size, 0, none⟩) a 0 0 0 cap Ybaf.underlying22 (by rw [hi]; simp [hs]) (by simp)
      have e : madeCells #[Value.int .u8 0] ([] : List Int).length = #[] := by simp [madeCells]
      rw [e]
      exact h
    · obtain ⟨pb, po, rfl, hc⟩ := hcell h0
      have hcp := run_copy_row (P := Ybaf.prog) (w.alloc (.cells (madeCells #[Value.int .u8 0] bs.length) 5)) 22 22 3 5 w.heap.size 0 bs.length bs.length ⟨pb, po, none⟩ bs.length cap (madeCells #[Value.int .u8 0] bs.length) 5 (bs.map (Value.int .u8)) Ybaf.underlying22
        (by rw [hi]; simp [hs]) (heap_alloc_new w _) (by simp) (fun j v hj => by
          rw [List.getElem?_map] at hj
          obtain ⟨x, hx, rfl⟩ := Option.map_eq_some_iff.1 hj
          have hlt : j < bs.length := (List.getElem?_eq_some_iff.1 hx).1
          have h := hc j hlt
          rw [List.getD_eq_getElem?_getD, hx] at h
          rw [Addr.add_mid, World.cell?_alloc_lt _ _ _ (block_lt_of_cell h)]
          exact h) (by rw [size_madeCells]; simp) (fun u hu => by obtain ⟨x, _, rfl⟩ := List.mem_map.1 hu; rfl)
      rw [setRow_new, List.length_map, List.take_zero, List.nil_append, List.drop_of_length_le (by simp [size_madeCells]), List.append_nil] at hcp
      exact hcp

theorem below_cells {B : Nat} {a : World} (b : Nat) (hb : B ≤ b) : ∀ (vs : List Value) (o : Nat) {w : World}, Below B a w → Below B a (w.setCells b o vs)
  | [], _, _, h => h
  | v :: r, o, w, h => by
    rw [World.setCells]
    exact below_cells b hb r (o + 1) (h.setCell hb v)

/-- The two arrays handed back, laid into two new variables, as the worlds go. -/
theorem laid_arrays (w3 : World) (vs ss : Nat → Value) : ∃ W4 W5 W6 : World, W4 = (w3.alloc (.cells zV 34)).alloc (.cells zS 35) ∧ W5 = W4.setCells w3.heap.size 0 (cellsOf vs) ∧ W6 = W5.setCells (w3.heap.size + 1) 0 (cellsOf ss) ∧
    W4.there w3.heap.size 0 (cellsOf vs).toArray.size ∧ W5.there (w3.heap.size + 1) 0 (cellsOf ss).toArray.size ∧ Below w3.heap.size w3 W6 ∧
    (∀ c, c < 256 → W6.cell? ⟨w3.heap.size, c, none⟩ = some (vs c)) ∧ ∀ c, c < 256 → W6.cell? ⟨w3.heap.size + 1, c, none⟩ = some (ss c) := by
  refine ⟨_, _, _, rfl, rfl, rfl, ?_⟩
  have hV : Arr ((w3.alloc (.cells zV 34)).alloc (.cells zS 35)) w3.heap.size 34 (fun _ => .slice none 0 0) := (Arr.made w3 _ 34).of_block (Below.heap_alloc _ _ _ (by simp))
  have hS : Arr ((w3.alloc (.cells zV 34)).alloc (.cells zS 35)) (w3.heap.size + 1) 35 (fun _ => .bool false) := by
    have := Arr.made (w3.alloc (.cells zV 34)) (.bool false) 35
    rw [World.size_alloc] at this
    exact this
  have hB : Below w3.heap.size w3 ((w3.alloc (.cells zV 34)).alloc (.cells zS 35)) := ((Below.refl _ w3).alloc (Nat.le_refl _) _).alloc (by simp) _
  generalize (w3.alloc (.cells zV 34)).alloc (.cells zS 35) = W4 at *
  have t4 : W4.there w3.heap.size 0 256 := by have := hV.there; simpa [cellsOf_len] using this
  have t4' : W4.there (w3.heap.size + 1) 0 256 := by have := hS.there; simpa [cellsOf_len] using this
  have n1 : (cellsOf vs).toArray.size = 256 := by simp [cellsOf_len]
  have n2 : (cellsOf ss).toArray.size = 256 := by simp [cellsOf_len]
  have t5 : (W4.setCells w3.heap.size 0 (cellsOf vs)).there (w3.heap.size + 1) 0 256 := World.there_setCells t4' _ _ _
  have r5 : (W4.setCells w3.heap.size 0 (cellsOf vs)).rangeAt w3.heap.size 0 (cellsOf vs) := World.rangeAt_setCells_same _ _ _ _ (by rw [cellsOf_len]; exact t4)
  have r6 := World.rangeAt_setCells_apart r5 (w3.heap.size + 1) 0 (cellsOf ss) (.inl (by omega))
  have r6' : ((W4.setCells w3.heap.size 0 (cellsOf vs)).setCells (w3.heap.size + 1) 0 (cellsOf ss)).rangeAt (w3.heap.size + 1) 0 (cellsOf ss) := World.rangeAt_setCells_same _ _ _ _ (by rw [cellsOf_len]; exact t5)
  have at' : ∀ (W : World) (b : Nat) (g : Nat → Value), W.rangeAt b 0 (cellsOf g) → ∀ c, c < 256 → W.cell? ⟨b, c, none⟩ = some (g c) := fun W b g h c hc => by
    have := h c (g c) (by unfold cellsOf; rw [List.getElem?_map, List.getElem?_range hc]; rfl)
    rwa [Nat.zero_add] at this
  exact ⟨by rw [n1]; exact t4, by rw [n2]; exact t5, below_cells _ (by omega) _ _ (below_cells _ (Nat.le_refl _) _ _ hB), at' _ _ _ r6, at' _ _ _ r6'⟩

theorem hdec_kept {w w' : World} {base b : Nat} {es : List (Int × List Int)} (h : Dec w base b es) (hb : Below w.heap.size w w') {n : Nat} : Dec (w'.drewN n) base b es := by
  obtain ⟨f, vs, hmap, hfam, hfv⟩ := h
  exact ⟨f, vs, hmap.of_block (hb.block _ hmap.lt), hfam.kept (fun g _ hg => hb.block g hg), hfv⟩

theorem wpList_store_lit {P : Program} {ops : Array Oper} {rest : List Oper} {a : Act} {w : World} {Q : Exit → Act → World → Prop} {x y : Operand} {u : TypeId} {pos : String} {after : Array Edge} (ty : TypeId) (b o : Nat) (cells : Array Value)
    (h : wpList P ops Q rest (a.put none undef) (w.setCells b o cells.toList)) (hx : a.eval x = .pointer (some ⟨b, o, none⟩)) (hy : a.eval y = .agg cells)
    (ht : w.there b o cells.size) (hi : (P.info? ty).map (·.size) = some cells.size) (h1 : cells.all (·.oneCell') = true) :
    wpList P ops Q ({ dst := none, op := .store ty x y, type := u, pos := pos, after := after, guard := none } :: rest) a w :=
  wpList_store_mid rfl ty x y rfl b o cells hx hy ht hi h1 h

set_option maxRecDepth 100000 in
set_option maxHeartbeats 400000 in
theorem law_model (w : World) (a : Option Addr) (cap : Nat) (bs : List Int) (s : ByteArray) (hmax : bs.length ≤ 4096) (hcap : bs.length ≤ cap) (hcm : cap ≤ maxLen) (hbytes : ∀ x ∈ bs, 0 ≤ x ∧ x ≤ 255)
    (hcell : 0 < bs.length → ∃ pb po, a = some ⟨pb, po, none⟩ ∧ ∀ j, j < bs.length → w.cell? ⟨pb, po + j, none⟩ = some (.int .u8 (bs.getD j 0)))
    (hg0 : w.cell? ⟨1, 0, none⟩ = some (.bool false)) (hg1 : w.cell? ⟨1, 1, none⟩ = some (.string s)) :
    Calls Ybaf.prog 5 #[.slice a bs.length cap] w fun e w' => e = .returned (.bool true) ∧ Below w.heap.size w w' := by
  have hmax' : ¬ (4096 : Int) < (bs.length : Int) := by omega
  obtain ⟨hmk, hcp⟩ := copy_any w a cap bs hmax hcell
  have hB1 : Below w.heap.size w (w.alloc (.cells (bs.map (Value.int .u8)).toArray 5)) := (Below.refl _ w).alloc (Nat.le_refl _) _
  have hs1 : (w.alloc (.cells (bs.map (Value.int .u8)).toArray 5)).heap.size = w.heap.size + 1 := by simp
  have hcell1 : 0 < bs.length → ∃ pb po, (some ⟨w.heap.size, 0, none⟩ : Option Addr) = some ⟨pb, po, none⟩ ∧ ∀ j, j < bs.length → (w.alloc (.cells (bs.map (Value.int .u8)).toArray 5)).cell? ⟨pb, po + j, none⟩ = some (.int .u8 (bs.getD j 0)) := fun _ => ⟨_, _, rfl, fun j hj => by
    rw [Nat.zero_add, World.cell?_alloc_new]
    simp [List.getElem?_eq_getElem hj]⟩
  generalize hW1 : w.alloc (.cells (bs.map (Value.int .u8)).toArray 5) = W1 at *
  clear hW1
  go_enter Ybaf.func5, Ybaf.ntmps5
  go_wp2_with fail
  have hbl := hB1.size
  refine (decode_any W1 (some ⟨w.heap.size, 0, none⟩) bs.length bs s (by omega) (Nat.le_refl _) (by unfold maxLen; omega) hbytes hcell1 (by rw [hB1.cell (block_lt_of_cell hg0)]; exact hg0) (by rw [hB1.cell (block_lt_of_cell hg1)]; exact hg1)).mono ?_
  rintro e w2 ⟨hb2, h2⟩
  have hB2 : Below w.heap.size w w2 := hB1.trans (hb2.mono (by omega))
  have hcell2 : 0 < bs.length → ∃ pb po, a = some ⟨pb, po, none⟩ ∧ ∀ j, j < bs.length → w2.cell? ⟨pb, po + j, none⟩ = some (.int .u8 (bs.getD j 0)) := fun h => by
    obtain ⟨pb, po, e, hc⟩ := hcell h
    exact ⟨pb, po, e, fun j hj => by rw [hB2.cell (block_lt_of_cell (hc j hj))]; exact hc j hj⟩
  have hcpy2 : ∀ j, j < bs.length → w2.cell? ⟨w.heap.size, 0 + j, none⟩ = some (.int .u8 (bs.getD j 0)) := fun j hj => by
    obtain ⟨pb, po, e, hc⟩ := hcell1 (by omega)
    cases e
    rw [hb2.cell (by simp; omega)]
    exact hc j hj
  have hs2 : w.heap.size + 1 ≤ w2.heap.size := by have := hb2.size; omega
  clear hcell1 hmk hcp
  rcases h2 with ⟨hok, rfl, base, hdec⟩ | ⟨hok, p, rfl, hp⟩
  · go_wp2_with fail
    refine (model_any w2 a cap bs hmax hcap hcm hbytes hcell2).mono ?_
    rintro e w3 ⟨vs, hB3, hown, he⟩
    rw [hok] at he
    simp only [if_true] at he
    generalize (Pl.all bs).1 = es at *
    subst he
    obtain ⟨W4, W5, W6, e4, e5, e6, t4, t5, hB6, cV, cS⟩ := laid_arrays w3 vs (fun c => .bool (Pl.seen es c))
    have o1 : (cellsOf vs).toArray.all (·.oneCell') = true := all_oneCell_toArray fun v hv => by
      obtain ⟨c, hc, rfl⟩ := List.mem_map.1 hv
      obtain ⟨base, ho⟩ := hown c (List.mem_range.1 hc)
      obtain ⟨a, m, k, e⟩ := ho.shape
      rw [e]; rfl
    have o2 := oneS (fun c => Pl.seen es c)
    have i1 : (Ybaf.prog.info? 34).map (·.size) = some (cellsOf vs).toArray.size := by rw [info34]; simp [cellsOf_len]
    have i2 : (Ybaf.prog.info? 35).map (·.size) = some (cellsOf fun c => .bool (Pl.seen es c)).toArray.size := by rw [info35]; simp [cellsOf_len]
    have z34 := zero34
    have z35 := zero35
    have H4 : Hid (W4 = (w3.alloc (.cells zV 34)).alloc (.cells zS 35)) := e4
    have H5 : Hid (W5 = W4.setCells w3.heap.size 0 (cellsOf vs)) := e5
    have H6 : Hid (W6 = W5.setCells (w3.heap.size + 1) 0 (cellsOf fun c => .bool (Pl.seen es c))) := e6
    rw [e5, e4] at t5
    rw [e4] at t4
    clear e4 e5 e6
    have hbel26 : Below w2.heap.size w2 W6 := hB3.trans (hB6.mono hB3.size)
    have hB : Below w.heap.size w W6 := hB2.trans (hbel26.mono (by omega))
    have hs6 := hbel26.size
    have y1 : Bytes W6 (.slice (some ⟨w.heap.size, 0, none⟩) bs.length bs.length) bs := ⟨_, _, rfl, by unfold maxLen; omega, fun _ => ⟨_, _, rfl, fun j hj => by rw [hbel26.cell (by simp; omega)]; exact hcpy2 j hj⟩⟩
    have y2 : Bytes W6 (.slice a bs.length cap) bs := ⟨_, _, rfl, by unfold maxLen; omega, fun h => by
      obtain ⟨pb, po, e, hc⟩ := hcell2 h
      exact ⟨pb, po, e, fun j hj => by rw [hbel26.cell (block_lt_of_cell (hc j hj))]; exact hc j hj⟩⟩
    go_wp2_with (first | (with_reducible refine wpList_store_lit 34 w3.heap.size 0 (cellsOf vs).toArray ?_ ?hx1 ?hy1 ?ht1 i1 o1) | (with_reducible refine wpList_store_lit 35 (w3.heap.size + 1) 0 (cellsOf fun c => .bool (Pl.seen es c)).toArray ?_ ?hx2 ?hy2 ?ht2 i2 o2))
    case hx1 => rfl
    case hy1 => rfl
    case ht1 => exact t4
    case hx2 => rfl
    case hy2 => rfl
    case ht2 => exact t5
    rw [← H4.out, ← H5.out, ← H6.out]
    clear z34 z35 t4 t5 o1 o2 i1 i2 hcell hcell2 hcpy2 hbytes
    refine (same_yes _ _ bs W6 y1 y2).mono ?_
    rintro e w7 ⟨rfl, nq, rfl⟩
    have hdec6 : Dec (W6.drewN nq) base W1.heap.size es := hdec_kept hdec hbel26
    have y3 : ∀ c : Nat, c < 256 → Bytes (W6.drewN nq) (vs c) (Pl.vals es c) := fun c hc => by
      obtain ⟨base, ho⟩ := hown c hc
      exact (ho.of_heap (w' := W6.drewN nq) (fun g hg => hB6.block g (ho.own_lt hg).2)).bytes
    rw [hs1] at hdec6
    clear hdec hown y1 y2
    go_wp2_with fail
    refine (match_yes (W6.drewN nq) (w.heap.size + 1) base w3.heap.size (w3.heap.size + 1) es vs hdec6 cS cV y3).mono ?_
    rintro e w8 ⟨rfl, nr, rfl⟩
    go_wp2
    go_ret
    exact ⟨rfl, below_drewN hB (nq + nr)⟩
  · go_wp2_with fail
    refine (model_any w2 a cap bs hmax hcap hcm hbytes hcell2).mono ?_
    rintro e w3 ⟨vs, hB3, hown, he⟩
    rw [hok] at he
    simp only [Bool.false_eq_true, if_false] at he
    generalize (Pl.all bs).1 = es at *
    subst he
    obtain ⟨W4, W5, W6, e4, e5, e6, t4, t5, hB6, cV, cS⟩ := laid_arrays w3 vs (fun c => .bool (Pl.seen es c))
    have o1 : (cellsOf vs).toArray.all (·.oneCell') = true := all_oneCell_toArray fun v hv => by
      obtain ⟨c, hc, rfl⟩ := List.mem_map.1 hv
      obtain ⟨base, ho⟩ := hown c (List.mem_range.1 hc)
      obtain ⟨a, m, k, e⟩ := ho.shape
      rw [e]; rfl
    have o2 := oneS (fun c => Pl.seen es c)
    have i1 : (Ybaf.prog.info? 34).map (·.size) = some (cellsOf vs).toArray.size := by rw [info34]; simp [cellsOf_len]
    have i2 : (Ybaf.prog.info? 35).map (·.size) = some (cellsOf fun c => .bool (Pl.seen es c)).toArray.size := by rw [info35]; simp [cellsOf_len]
    have z34 := zero34
    have z35 := zero35
    have H4 : Hid (W4 = (w3.alloc (.cells zV 34)).alloc (.cells zS 35)) := e4
    have H5 : Hid (W5 = W4.setCells w3.heap.size 0 (cellsOf vs)) := e5
    have H6 : Hid (W6 = W5.setCells (w3.heap.size + 1) 0 (cellsOf fun c => .bool (Pl.seen es c))) := e6
    rw [e5, e4] at t5
    rw [e4] at t4
    clear e4 e5 e6
    have hbel26 : Below w2.heap.size w2 W6 := hB3.trans (hB6.mono hB3.size)
    have hB : Below w.heap.size w W6 := hB2.trans (hbel26.mono (by omega))
    have hs6 := hbel26.size
    have y1 : Bytes W6 (.slice (some ⟨w.heap.size, 0, none⟩) bs.length bs.length) bs := ⟨_, _, rfl, by unfold maxLen; omega, fun _ => ⟨_, _, rfl, fun j hj => by rw [hbel26.cell (by simp; omega)]; exact hcpy2 j hj⟩⟩
    have y2 : Bytes W6 (.slice a bs.length cap) bs := ⟨_, _, rfl, by unfold maxLen; omega, fun h => by
      obtain ⟨pb, po, e, hc⟩ := hcell2 h
      exact ⟨pb, po, e, fun j hj => by rw [hbel26.cell (block_lt_of_cell (hc j hj))]; exact hc j hj⟩⟩
    go_wp2_with (first | (with_reducible refine wpList_store_lit 34 w3.heap.size 0 (cellsOf vs).toArray ?_ ?hx1 ?hy1 ?ht1 i1 o1) | (with_reducible refine wpList_store_lit 35 (w3.heap.size + 1) 0 (cellsOf fun c => .bool (Pl.seen es c)).toArray ?_ ?hx2 ?hy2 ?ht2 i2 o2))
    case hx1 => rfl
    case hy1 => rfl
    case ht1 => exact t4
    case hx2 => rfl
    case hy2 => rfl
    case ht2 => exact t5
    rw [← H4.out, ← H5.out, ← H6.out]
    clear z34 z35 t4 t5 o1 o2 i1 i2 hcell hcell2 hcpy2 hbytes
    refine (same_yes _ _ bs W6 y1 y2).mono ?_
    rintro e w7 ⟨rfl, nq, rfl⟩
    have hp6 : (W6.drewN nq).cell? ⟨p, 0, none⟩ = some (.int .i64 (Pl.all bs).2.1) := by
      have : W6.cell? ⟨p, 0, none⟩ = some (.int .i64 (Pl.all bs).2.1) := by rw [hbel26.cell (block_lt_of_cell hp)]; exact hp
      exact this
    have nn := neqNil31
    have as39 := assert39
    generalize (Pl.all bs).2.1 = off at *
    clear hp hown y1 y2 hok
    go_wp2
    go_ret
    exact ⟨rfl, below_drewN hB nq⟩

theorem law_long (w : World) (a : Option Addr) (n cap : Nat) (hn : 4096 < n) : Calls Ybaf.prog 5 #[.slice a n cap] w fun e w' => e = .returned (.bool true) ∧ Below w.heap.size w w' := by
  have hn' : (4096 : Int) < (n : Int) := by omega
  go_enter Ybaf.func5, Ybaf.ntmps5
  go_wp2
  go_ret
  exact ⟨rfl, Below.refl _ _⟩

end Go.Proofs.YbulkbomyFmt
