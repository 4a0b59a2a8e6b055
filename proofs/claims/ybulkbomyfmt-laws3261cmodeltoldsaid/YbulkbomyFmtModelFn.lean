/-
  zzs3261cmodel by its contract.
-/
import Derived.Test.YbulkbomyFmtModelAid
import Derived.Deep.RegionLaw
import Derived.BigQuiet
namespace Go.Proofs.YbulkbomyFmt
open Go.RowKit

theorem info34 : (Ybaf.prog.info? 34).map (·.size) = some 256 := by kernel_rfl
theorem info35 : (Ybaf.prog.info? 35).map (·.size) = some 256 := by kernel_rfl

/-- What the model hands back. -/
def ModelOut (w : World) (bs : List Int) (e : Ending) (w' : World) : Prop :=
  ∃ vs : Nat → Value, Below w.heap.size w w' ∧ (∀ c, c < 256 → ∃ base, Owns w' base (vs c) (Pl.vals (Pl.all bs).1 c)) ∧
    e = .returned (.tuple #[.agg (cellsOf vs).toArray, .agg (cellsOf fun c => .bool (Pl.seen (Pl.all bs).1 c)).toArray, .int .i64 (Pl.cnt (Pl.all bs).1), .int .i64 (if (Pl.all bs).2.2 then 0 else (Pl.all bs).2.1), .bool (Pl.all bs).2.2])

theorem oneV {w : World} {base : Nat} {vs : Nat → Value} {xs : Nat → List Int} (h : Fam w base 256 vs xs) : (cellsOf vs).toArray.all (·.oneCell') = true := by
  refine all_oneCell_toArray fun v hv => ?_
  obtain ⟨c, hc, rfl⟩ := List.mem_map.1 hv
  obtain ⟨a, m, k, e⟩ := (h.1 c (List.mem_range.1 hc)).shape
  rw [e]; rfl

theorem oneS (g : Nat → Bool) : (cellsOf fun c => .bool (g c)).toArray.all (·.oneCell') = true := by
  refine all_oneCell_toArray fun v hv => ?_
  obtain ⟨c, hc, rfl⟩ := List.mem_map.1 hv
  rfl

theorem StM.facts {w wr : World} {B : Nat} {vs : Nat → Value} {es : List (Int × List Int)} (h : StM w wr B vs es) (n : Nat) :
    (wr.drewN n).rangeAt B 0 (cellsOf vs) ∧ (wr.drewN n).rangeAt (B + 1) 0 (cellsOf fun c => .bool (Pl.seen es c)) ∧ (wr.drewN n).there B 0 (cellsOf vs).toArray.size ∧ (wr.drewN n).there (B + 1) 0 (cellsOf fun c => .bool (Pl.seen es c)).toArray.size :=
  ⟨Arr.range (w := wr.drewN n) h.2.1, Arr.range (w := wr.drewN n) h.2.2.1, Arr.there (w := wr.drewN n) h.2.1, Arr.there (w := wr.drewN n) h.2.2.1⟩

theorem StM.loads {w wr : World} {B : Nat} {vs : Nat → Value} {es : List (Int × List Int)} (h : StM w wr B vs es) (n : Nat) :
    (loadVar 34 ⟨B, 0, none⟩).run Ybaf.prog (wr.drewN n) = .ok (.agg (cellsOf vs).toArray) (wr.drewN n) ∧ (loadVar 35 ⟨B + 1, 0, none⟩).run Ybaf.prog (wr.drewN n) = .ok (.agg (cellsOf fun c => .bool (Pl.seen es c)).toArray) (wr.drewN n) :=
  ⟨run_loadVar_mid _ B 0 34 _ _ (h.facts n).1 Ybaf.underlying34 rfl (by rw [info34, cellsOf_len]), run_loadVar_mid _ (B + 1) 0 35 _ _ (h.facts n).2.1 Ybaf.underlying35 rfl (by rw [info35, cellsOf_len])⟩

theorem StM.out {w wr : World} {vs : Nat → Value} {es : List (Int × List Int)} (h : StM w wr w.heap.size vs es) (n : Nat) {bs : List Int} {i : Nat} {ok : Bool} (hall : Pl.all bs = (es, i, ok)) {off : Int} (hoff : off = if ok then 0 else (i : Int)) :
    ModelOut w bs (.returned (.tuple #[.agg (cellsOf vs).toArray, .agg (cellsOf fun c => .bool (Pl.seen es c)).toArray, .int .i64 (Pl.cnt es), .int .i64 off, .bool ok])) (wr.drewN n) := by
  refine ⟨vs, below_drewN h.2.2.2.1 n, fun c hc => ⟨w.heap.size + 2, ?_⟩, ?_⟩
  · rw [hall]
    exact h.1.1 c hc
  · rw [hall, hoff]

set_option maxRecDepth 100000 in
set_option maxHeartbeats 400000 in
theorem model_some (w : World) (pb po cap : Nat) (bs : List Int) (hlen : 0 < bs.length) (hmax : bs.length ≤ 4096) (hcap : bs.length ≤ cap) (hcm : cap ≤ maxLen) (hbytes : ∀ x ∈ bs, 0 ≤ x ∧ x ≤ 255)
    (hcell : ∀ j, j < bs.length → w.cell? ⟨pb, po + j, none⟩ = some (.int .u8 (bs.getD j 0))) :
    Calls Ybaf.prog 12 #[.slice (some ⟨pb, po, none⟩) bs.length cap] w fun e w' => ModelOut w bs e w' := by
  unfold maxLen at hcm
  have z34 := zero34
  have z35 := zero35
  have hpb : pb < w.heap.size := block_lt_of_cell (hcell 0 hlen)
  go_enter Ybaf.func12, Ybaf.ntmps12
  go_wp2_with fail
  have hst : StM w ((w.alloc (.cells zV 34)).alloc (.cells zS 35)) w.heap.size (fun _ => .slice none 0 0) [] := by
    refine ⟨(Fam.zero _ _ _).congr fun i hi => by simp [Pl.vals], ?_, ?_, ((Below.refl _ w).alloc (Nat.le_refl _) _).alloc (by simp) _, by simp⟩
    · exact (Arr.made w _ 34).of_block (Below.heap_alloc _ _ _ (by simp))
    · have := Arr.made (w.alloc (.cells zV 34)) (.bool false) 35
      rw [World.size_alloc] at this
      exact this
  generalize (w.alloc (.cells zV 34)).alloc (.cells zS 35) = W at *
  go_loopw [4, 7] (fun cv iv wr => ∃ i vs es, Pl.At bs i es ∧ iv = .int .i64 (i : Nat) ∧ cv = .int .i64 (Pl.cnt es : Nat) ∧ StM w wr w.heap.size vs es) (fun _ iv _ => bs.length - (intOf iv).toNat)
  case atStart => exact ⟨0, _, [], Pl.At.start bs, rfl, rfl, hst⟩
  case round =>
    obtain ⟨i, vs, es, hat, rfl, rfl, hst⟩ := hrel
    have hile := hat.1
    have hbel := hst.2.2.2.1
    by_cases hlt : i < bs.length
    · have hi : (i : Int) < (bs.length : Int) := by omega
      have cellr : ∀ j, j < bs.length → wr.cell? ⟨pb, po + j, none⟩ = some (.int .u8 (bs.getD j 0)) := fun j hj => by rw [hbel.cell hpb]; exact hcell j hj
      have g1 := cellr i hlt
      by_cases hend : i + 1 = bs.length
      · have he : ((i : Int) + 1 == (bs.length : Int)) = true := by rw [beq_iff_eq]; omega
        have Hall : Hid (Pl.all bs = (es, i, false)) := hat.stray hend
        clear hat hcell cellr hbytes
        go_wp2_with fail
        refine wp_region_quiet_lit (by kernel_rfl) (by kernel_rfl) ?_
        refine wpQuiet_load_arr rfl 34 _ rfl w.heap.size 0 (cellsOf vs) _ rfl (fun _ ⟨n, e⟩ => e ▸ (hst.facts n).1) Ybaf.underlying34 rfl (by rw [info34, cellsOf_len]) ?_
        refine wpQuiet_load_arr rfl 35 _ rfl (w.heap.size + 1) 0 (cellsOf fun c => .bool (Pl.seen es c)) _ rfl (fun _ ⟨n, e⟩ => e ▸ (hst.facts n).2.1) Ybaf.underlying35 rfl (by rw [info35, cellsOf_len]) ?_
        quiet_step (fail)
        quiet_step (fail)
        refine wpQuiet_store_arr rfl 34 _ _ rfl w.heap.size 0 (cellsOf vs) rfl rfl (fun _ ⟨n, e⟩ => e ▸ ⟨(hst.facts n).1, (hst.facts n).2.2.1⟩) (by rw [info34]; simp [cellsOf_len]) (oneV hst.1) ?_
        refine wpQuiet_store_arr rfl 35 _ _ rfl (w.heap.size + 1) 0 (cellsOf fun c => .bool (Pl.seen es c)) rfl rfl (fun _ ⟨n, e⟩ => e ▸ ⟨(hst.facts n).2.1, (hst.facts n).2.2.2⟩) (by rw [info35]; simp [cellsOf_len]) (oneS _) ?_
        quiet_step (fail)
        quiet_step (fail)
        quiet_step (fail)
        refine wpQuiet_nil ?_
        intro _ hw'
        obtain ⟨nq, hw''⟩ := hw'
        subst hw''
        go_wp2
        refine bodyPost_ret (results_model Ybaf.results12 rfl rfl (hst.loads nq).1 (hst.loads nq).2) rfl ?_
        exact hst.out nq Hall.out rfl
      · have he : ((i : Int) + 1 == (bs.length : Int)) = false := by rw [beq_eq_false_iff_ne]; omega
        have hi1 : (i : Int) + 1 < (bs.length : Int) := by omega
        have g2 := cellr (i + 1) (by omega)
        have hi10 : (0 : Int) ≤ (i : Int) + 1 := by omega
        have htn : ((i : Int) + 1).toNat = i + 1 := by omega
        have hx := hbytes (bs.getD (i + 1) 0) (by rw [List.getD_eq_getElem?_getD, List.getElem?_eq_getElem (by omega)]; exact List.getElem_mem _)
        have hc0 := hbytes (bs.getD i 0) (by rw [List.getD_eq_getElem?_getD, List.getElem?_eq_getElem (by omega)]; exact List.getElem_mem _)
        obtain ⟨l, hl⟩ := Int.eq_ofNat_of_zero_le hx.1
        obtain ⟨c, hc⟩ := Int.eq_ofNat_of_zero_le hc0.1
        rw [hl] at g2 hx
        rw [hc] at g1 hc0
        have hl255 : l ≤ 255 := by omega
        have hl255' : (l : Int) ≤ 255 := by omega
        by_cases hfit : i + 2 + l ≤ bs.length
        · have hnot : ¬ (bs.length : Int) < (i : Int) + 2 + (l : Int) := by omega
          have hstep := hat.step (by omega) (by rw [hl]; exact hfit)
          rw [hl, hc] at hstep
          have Hstep : Hid (Pl.At bs (i + 2 + l) (es ++ [((c : Int), (bs.drop (i + 2)).take l)])) := hstep
          have hdl : ((bs.drop (i + 2)).take l).length = l := by rw [List.length_take, List.length_drop]; omega
          have hel : (Pl.enc es).length = i := by obtain ⟨_, f, _, _, h2⟩ := hat; exact h2
          have hcl256 : c < 256 := by omega
          have hci : (c : Int) < 256 := by omega
          have hsrc : ∀ po', (0 < l → po' = po + (i + 2)) → Src w w.heap.size (some ⟨pb, po', none⟩) ((bs.drop (i + 2)).take l) := fun po' hpo h0 => by
            rw [hdl] at h0
            refine ⟨pb, po', rfl, hpb, fun j hj => ?_⟩
            rw [hdl] at hj
            have := hcell (i + 2 + j) (by omega)
            rw [List.getD_eq_getElem?_getD, List.getElem?_take, if_pos hj, List.getElem?_drop, ← List.getD_eq_getElem?_getD, hpo h0, Nat.add_assoc, this]
          have hcnt := Pl.cnt_snoc es (c : Int) ((bs.drop (i + 2)).take l)
          have hcb : (Pl.cnt es : Int) ≤ 4096 := by
            have h1 := Pl.cnt_le es
            have h2 : es.length ≤ (Pl.enc es).length := Pl.len_le es
            omega
          have Hcnt : Hid (Pl.cnt (es ++ [((c : Int), (bs.drop (i + 2)).take l)]) = Pl.cnt es + if Pl.seen es (c : Int) then 0 else 1) := hcnt
          have Hhl : Hid (bs.getD (i + 1) 0 = (l : Nat)) := hl
          have Hhc : Hid (bs.getD i 0 = (c : Nat)) := hc
          have hwr1 : IntKind.i64.wrap ((i : Int) + 2) = (i : Int) + 2 := by rw [IntKind.wrap_i64]; omega
          have hwr2 : IntKind.i64.wrap ((i : Int) + 2 + (l : Int)) = (i : Int) + 2 + (l : Int) := by rw [IntKind.wrap_i64]; omega
          have hp1 : (0 : Int) ≤ (i : Int) + 2 + (l : Int) := by omega
          have hp2 : (i : Int) + 2 + (l : Int) ≤ (cap : Int) := by omega
          have hp3 : (0 : Int) ≤ (i : Int) + 2 := by omega
          have hp4 : (i : Int) + 2 ≤ max ((i : Int) + 2 + (l : Int)) 0 := by omega
          have hp5 : (i : Int) + 2 ≤ (i : Int) + 2 + (l : Int) := by omega
          have ht1 : ((i : Int) + 2).toNat = i + 2 := by omega
          have ht2 : ((i : Int) + 2 + (l : Int)).toNat = i + 2 + l := by omega
          by_cases hcl : cap = i + 2
          · have hl00 : l = 0 := by omega
            obtain ⟨c3, f3, av, nv, cv, w5, c4, e3, c5, f5, vs', hst'⟩ := round_model w wr w.heap.size vs es hst c hcl256 (some ⟨pb, po, none⟩) 0 ((bs.drop (i + 2)).take l) (hsrc _ fun h => by omega) (by omega)
            rw [hdl] at e3
            have hcl' : i + 2 = cap := hcl.symm
            have Hcl : Hid (cap = i + 2) := hcl
            clear hcl hl00
            have Hst' : Hid (StM w (w5.setCell ⟨w.heap.size, c, none⟩ (.slice av nv cv)) w.heap.size vs' (es ++ [((c : Int), (bs.drop (i + 2)).take l)])) := hst'
            clear hstep hat hcell hbytes hl hc cellr hsrc hcnt hst' hdl hel
            cases hs : Pl.seen es c with
            | true =>
              rw [hs] at c3 c4 e3 Hcnt
              simp only [if_true] at c4 e3
              go_wp2_with fail
              go_region_law (refine step_append_eq rfl _ _ 22 (by rfl) _ _ (.slice av nv cv) (by rfl) (by rfl) e3 ?_)
              go_wp2_with fail
              exact ⟨⟨i + 2 + l, vs', _, Hstep.out, by go_num, by rw [Hcnt.out]; go_num, Hst'.out⟩, by simp [intOf]; omega⟩
            | false =>
              rw [hs] at c3 c4 e3 Hcnt
              simp only [Bool.false_eq_true, if_false] at c4 e3
              go_wp2_with fail
              go_region_law (refine step_append_eq rfl _ _ 22 (by rfl) _ _ (.slice av nv cv) (by rfl) (by rfl) e3 ?_)
              go_wp2_with fail
              exact ⟨⟨i + 2 + l, vs', _, Hstep.out, by go_num, by rw [Hcnt.out]; go_num, Hst'.out⟩, by simp [intOf]; omega⟩
          · obtain ⟨c3, f3, av, nv, cv, w5, c4, e3, c5, f5, vs', hst'⟩ := round_model w wr w.heap.size vs es hst c hcl256 (some ⟨pb, po + (i + 2), none⟩) (cap - (i + 2)) ((bs.drop (i + 2)).take l) (hsrc _ fun _ => rfl) (by omega)
            rw [hdl] at e3
            have Hst' : Hid (StM w (w5.setCell ⟨w.heap.size, c, none⟩ (.slice av nv cv)) w.heap.size vs' (es ++ [((c : Int), (bs.drop (i + 2)).take l)])) := hst'
            clear hstep hat hcell hbytes hl hc cellr hsrc hcnt hst' hdl hel
            cases hs : Pl.seen es c with
            | true =>
              rw [hs] at c3 c4 e3 Hcnt
              simp only [if_true] at c4 e3
              go_wp2_with fail
              go_region_law (refine step_append_eq rfl _ _ 22 (by rfl) _ _ (.slice av nv cv) (by rfl) (by rfl) e3 ?_)
              go_wp2_with fail
              exact ⟨⟨i + 2 + l, vs', _, Hstep.out, by go_num, by rw [Hcnt.out]; go_num, Hst'.out⟩, by simp [intOf]; omega⟩
            | false =>
              rw [hs] at c3 c4 e3 Hcnt
              simp only [Bool.false_eq_true, if_false] at c4 e3
              go_wp2_with fail
              go_region_law (refine step_append_eq rfl _ _ 22 (by rfl) _ _ (.slice av nv cv) (by rfl) (by rfl) e3 ?_)
              go_wp2_with fail
              exact ⟨⟨i + 2 + l, vs', _, Hstep.out, by go_num, by rw [Hcnt.out]; go_num, Hst'.out⟩, by simp [intOf]; omega⟩
        · have hnot : (bs.length : Int) < (i : Int) + 2 + (l : Int) := by omega
          have Hall : Hid (Pl.all bs = (es, i, false)) := hat.short (by omega) (by rw [hl]; simpa using hfit)
          clear hat hcell cellr hbytes hl hc
          go_wp2_with fail
          refine wp_region_quiet_lit (by kernel_rfl) (by kernel_rfl) ?_
          refine wpQuiet_load_arr rfl 34 _ rfl w.heap.size 0 (cellsOf vs) _ rfl (fun _ ⟨n, e⟩ => e ▸ (hst.facts n).1) Ybaf.underlying34 rfl (by rw [info34, cellsOf_len]) ?_
          refine wpQuiet_load_arr rfl 35 _ rfl (w.heap.size + 1) 0 (cellsOf fun c => .bool (Pl.seen es c)) _ rfl (fun _ ⟨n, e⟩ => e ▸ (hst.facts n).2.1) Ybaf.underlying35 rfl (by rw [info35, cellsOf_len]) ?_
          quiet_step (fail)
          quiet_step (fail)
          refine wpQuiet_store_arr rfl 34 _ _ rfl w.heap.size 0 (cellsOf vs) rfl rfl (fun _ ⟨n, e⟩ => e ▸ ⟨(hst.facts n).1, (hst.facts n).2.2.1⟩) (by rw [info34]; simp [cellsOf_len]) (oneV hst.1) ?_
          refine wpQuiet_store_arr rfl 35 _ _ rfl (w.heap.size + 1) 0 (cellsOf fun c => .bool (Pl.seen es c)) rfl rfl (fun _ ⟨n, e⟩ => e ▸ ⟨(hst.facts n).2.1, (hst.facts n).2.2.2⟩) (by rw [info35]; simp [cellsOf_len]) (oneS _) ?_
          quiet_step (fail)
          quiet_step (fail)
          quiet_step (fail)
          refine wpQuiet_nil ?_
          intro _ hw'
          obtain ⟨nq, hw''⟩ := hw'
          subst hw''
          go_wp2
          refine bodyPost_ret (results_model Ybaf.results12 rfl rfl (hst.loads nq).1 (hst.loads nq).2) rfl ?_
          exact hst.out nq Hall.out rfl
    · have Hall : Hid (Pl.all bs = (es, i, true)) := hat.fin (by omega)
      clear hat hcell hbytes
      go_wp2_with fail
      refine wp_region_quiet_lit (by kernel_rfl) (by kernel_rfl) ?_
      refine wpQuiet_load_arr rfl 34 _ rfl w.heap.size 0 (cellsOf vs) _ rfl (fun _ ⟨n, e⟩ => e ▸ (hst.facts n).1) Ybaf.underlying34 rfl (by rw [info34, cellsOf_len]) ?_
      refine wpQuiet_load_arr rfl 35 _ rfl (w.heap.size + 1) 0 (cellsOf fun c => .bool (Pl.seen es c)) _ rfl (fun _ ⟨n, e⟩ => e ▸ (hst.facts n).2.1) Ybaf.underlying35 rfl (by rw [info35, cellsOf_len]) ?_
      quiet_step (fail)
      refine wpQuiet_store_arr rfl 34 _ _ rfl w.heap.size 0 (cellsOf vs) rfl rfl (fun _ ⟨n, e⟩ => e ▸ ⟨(hst.facts n).1, (hst.facts n).2.2.1⟩) (by rw [info34]; simp [cellsOf_len]) (oneV hst.1) ?_
      refine wpQuiet_store_arr rfl 35 _ _ rfl (w.heap.size + 1) 0 (cellsOf fun c => .bool (Pl.seen es c)) rfl rfl (fun _ ⟨n, e⟩ => e ▸ ⟨(hst.facts n).2.1, (hst.facts n).2.2.2⟩) (by rw [info35]; simp [cellsOf_len]) (oneS _) ?_
      quiet_step (fail)
      quiet_step (fail)
      quiet_step (fail)
      refine wpQuiet_nil ?_
      intro _ hw'
      obtain ⟨nq, hw''⟩ := hw'
      subst hw''
      go_wp2
      refine bodyPost_ret (results_model Ybaf.results12 rfl rfl (hst.loads nq).1 (hst.loads nq).2) rfl ?_
      exact hst.out nq Hall.out rfl

end Go.Proofs.YbulkbomyFmt
