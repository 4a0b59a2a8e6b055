/-
  decodeOptions's closure by its contract.
-/
import Derived.Test.YbulkbomyFmtFam
import Derived.Test.YbulkbomyFmtPlain
import Derived.Test.YbulkbomyFmtSteps
import Derived.Deep.RegionHeld3
namespace Go.Proofs.YbulkbomyFmt
open Go.RowKit

/-- The map in block b holds, for each code of es, a slice that owns what es joins to there. -/
def Dec (w : World) (base b : Nat) (es : List (Int × List Int)) : Prop :=
  ∃ f vs, MapIs w .u8 b f (Pl.cnt es) ∧ Fam w base 256 vs (fun i => Pl.vals es i) ∧ ∀ i : Nat, i < 256 → f i = if Pl.seen es i then some (vs i) else none

theorem vals_unseen (es : List (Int × List Int)) (c : Int) (h : Pl.seen es c = false) : Pl.vals es c = [] := by
  unfold Pl.vals
  rw [List.flatMap_eq_nil_iff]
  intro e he
  have : ¬ e.1 = c := by
    intro h1
    have : Pl.seen es c = true := by
      unfold Pl.seen
      exact List.any_eq_true.2 ⟨e, he, by simp [h1]⟩
    rw [this] at h
    cases h
  simp [this]

theorem Fam.congr {w : World} {base n : Nat} {vs : Nat → Value} {xs ys : Nat → List Int} (h : Fam w base n vs xs) (e : ∀ i, i < n → xs i = ys i) : Fam w base n vs ys :=
  ⟨fun c hc => by rw [← e c hc]; exact h.1 c hc, h.2⟩

theorem Fam.replace {w w' : World} {base n : Nat} {vs : Nat → Value} {xs : Nat → List Int} (h : Fam w base n vs xs) (hh : ∀ g, base ≤ g → g < w.heap.size → w'.heap[g]? = w.heap[g]?) (c : Nat) {v' : Value} {ys : List Int}
    (ho : Owns w' base v' ys) (hnew : ∀ g, v'.ownBlock = some g → w.heap.size ≤ g) : Fam w' base n (fupd vs c v') (fupd xs c ys) := by
  refine ⟨fun d hd => ?_, fun d d' hd hd' hne g hg1 => ?_⟩
  · by_cases hdc : d = c
    · subst hdc
      rw [fupd_same, fupd_same]
      exact ho
    · rw [fupd_other _ _ _ hdc, fupd_other _ _ _ hdc]
      exact (h.kept hh).1 d hd
  · by_cases h1 : d = c
    · subst h1
      rw [fupd_same] at hg1
      rw [fupd_other _ _ _ (Ne.symm hne)]
      intro hg2
      have := ((h.1 d' hd').own_lt hg2).2
      have := hnew g hg1
      omega
    · rw [fupd_other _ _ _ h1] at hg1
      by_cases h2 : d' = c
      · subst h2
        rw [fupd_same]
        intro hg2
        have := ((h.1 d hd).own_lt hg1).2
        have := hnew g hg2
        omega
      · rw [fupd_other _ _ _ h2]
        exact h.2 d d' hd hd' hne g hg1

/-- What the closure leaves as it was. -/
def KeptBut (base b : Nat) (w w' : World) : Prop := Below b w w' ∧ ∀ g, g < base → g ≠ b → w'.heap[g]? = w.heap[g]?

theorem zero22 (w : World) : (zeroValue 22).run Ybaf.prog w = .ok (.slice none 0 0) w := by kernel_rfl

/-- The closure's last statement, as the worlds go: w0 (ahead of the append), w1, w2. -/
theorem visit_end (w w0 w1 w2 : World) (b base c : Nat) (d : List Int) (es : List (Int × List Int)) (f : Int → Option Value) (vs : Nat → Value) (v' : Value) (n : Nat) (hc : c < 256) (hbb : b < base)
    (hk0 : ∀ g, g < base → w0.heap[g]? = w.heap[g]?) (hb0 : Below b w w0) (hbase : base ≤ w0.heap.size) (hrow : ∀ g, (vs c).ownBlock = some g → base ≤ g)
    (hfam2 : Fam w1 base 256 (fupd vs c v') (fupd (fun i => Pl.vals es i) c (Pl.vals es c ++ d))) (hgr : w0.grownBy w1 (vs c).ownBlock)
    (hmap2 : MapIs w2 .u8 b (fput f c v') n) (hn : n = Pl.cnt (es ++ [((c : Int), d)])) (hgr2 : w1.grownBy w2 (some b))
    (hfv : ∀ i : Nat, i < 256 → i ≠ c → f i = if Pl.seen es i then some (vs i) else none) :
    Dec w2 base b (es ++ [((c : Int), d)]) ∧ KeptBut base b w w2 := by
  have hkb : ∀ g, g < base → w1.heap[g]? = w0.heap[g]? := fun g hg => hgr.block g (by omega) (fun e => by
    have := hrow g e.symm
    omega)
  have hs1 : w0.heap.size ≤ w1.heap.size := hgr.size
  subst hn
  refine ⟨⟨fput f c v', fupd vs c v', hmap2, ?_, fun i hi => ?_⟩, ?_, ?_⟩
  · refine (hfam2.kept fun g hg hlt => hgr2.block g hlt (fun e => by cases e; omega)).congr fun i hi => ?_
    by_cases hic : i = c
    · subst hic
      rw [fupd_same, Pl.vals_snoc, if_pos rfl]
    · rw [fupd_other _ _ _ hic, Pl.vals_snoc, if_neg (by omega)]
  · rw [Pl.seen_snoc]
    by_cases hic : i = c
    · subst hic
      simp [fput, fupd_same]
    · have h1 : ¬ (i : Int) = (c : Int) := by omega
      have h2 : ((c : Int) == (i : Int)) = false := by simp; omega
      rw [fupd_other _ _ _ hic, h2, Bool.or_false]
      simp only [fput, h1, if_false]
      exact hfv i hi hic
  · refine (hb0.grown hgr (by omega) (fun k hk => by have := hrow k hk; omega)).grown hgr2 (by omega) (fun k hk => by cases hk; exact Nat.le_refl _)
  · intro g hg hne
    rw [hgr2.block g (by omega) (fun e => by cases e; exact hne rfl), hkb g hg, hk0 g hg]

set_option maxRecDepth 100000 in
set_option maxHeartbeats 400000 in
theorem visit_seen (w : World) (bx b base c pb po pcap : Nat) (d : List Int) (es : List (Int × List Int)) (hc : c < 256) (hbx : bx ≠ b) (hbxb : bx < base) (hbb : b < base) (hbase : base ≤ w.heap.size)
    (hbox : w.cell? ⟨bx, 0, none⟩ = some (.map (some b))) (h : Dec w base b es) (hd : ∀ j, j < d.length → w.cell? ⟨pb, po + j, none⟩ = some (.int .u8 (d.getD j 0)))
    (hlen : (Pl.vals es c).length + d.length ≤ 1099511627776) (hs : Pl.seen es c = true) :
    Calls Ybaf.prog 22 #[.int .u8 c, .slice (some ⟨pb, po, none⟩) d.length pcap, .pointer (some ⟨bx, 0, none⟩)] w fun e w' => e = .returned (.tuple #[]) ∧ Dec w' base b (es ++ [((c : Int), d)]) ∧ KeptBut base b w w' := by
  obtain ⟨f, vs, hmap, hfam, hfv⟩ := h
  have hfc := hfv c hc
  rw [hs, if_pos rfl] at hfc
  have hlk := hmap.lookup (P := Ybaf.prog) Ybaf.underlying31 Ybaf.underlying5 (zero22 w) c
  rw [hfc] at hlk
  simp only [Option.getD_some, Option.isSome_some] at hlk
  have hfam1 : Fam w.drew base 256 vs (fun i => Pl.vals es i) := hfam
  obtain ⟨v', w1, hap, hfam2, hgr⟩ := hfam1.append hc (some ⟨pb, po, none⟩) pcap d (fun _ => ⟨pb, po, rfl, hd⟩) hlen hbase 22
  have hrow : ∀ g, (vs c).ownBlock = some g → base ≤ g := fun g hg => ((hfam.1 c hc).own_lt hg).1
  have hkb : ∀ g, g < base → w1.heap[g]? = w.heap[g]? := fun g hg => hgr.block g (by show g < w.heap.size; omega) (fun e => by
    have := hrow g e.symm
    omega)
  have hmap1 := hmap.of_block (hkb b hbb)
  obtain ⟨w2, hup, hmap2, hgr2⟩ := hmap1.update (P := Ybaf.prog) Ybaf.underlying31 Ybaf.underlying5 c v'
  have hbox1 : w1.cell? ⟨bx, 0, none⟩ = some (.map (some b)) := by rw [World.cell?_of_block (w := w) (hkb bx hbxb)]; exact hbox
  have hbox2 : w2.cell? ⟨bx, 0, none⟩ = some (.map (some b)) := hgr2.cell hbox1 (fun e => hbx (by simpa using e))
  have fin : Dec w2 base b (es ++ [((c : Int), d)]) ∧ KeptBut base b w w2 :=
    visit_end w w.drew w1 w2 b base c d es f vs v' _ hc hbb (fun _ _ => rfl) ((Below.refl _ _).drew) hbase hrow hfam2 hgr hmap2 (by rw [Pl.cnt_snoc, hs, hfc]; simp) hgr2 (fun i hi _ => hfv i hi)
  have Hfin : Hid (Dec w2 base b (es ++ [((c : Int), d)]) ∧ KeptBut base b w w2) := fin
  clear hmap hfam hfam1 hfam2 hgr hkb hmap1 hmap2 hgr2 hfv hd fin hrow
  go_enter Ybaf.func22, Ybaf.ntmps22
  go_wp2_with fail
  go_region_held3 (fun W => W.cell? ⟨bx, 0, none⟩ = some (.map (some b))) (first | exact hbox1 | exact hbox2 | go_keep) (first | (refine step_append_eq rfl _ _ 22 (by rfl) (vs c) (.slice (some ⟨pb, po, none⟩) d.length pcap) v' (by rfl) (by rfl) hap ?_) | (refine step_mapUpdate_eq rfl _ _ _ 31 (by rfl) (.map (some b)) (.int .u8 c) v' (by rfl) (by rfl) (by rfl) hup ?_))
  go_wp2
  go_end0
  exact ⟨rfl, Hfin.out⟩

set_option maxRecDepth 100000 in
set_option maxHeartbeats 400000 in
theorem visit_unseen (w : World) (bx b base c pb po pcap : Nat) (d : List Int) (es : List (Int × List Int)) (hc : c < 256) (hbx : bx ≠ b) (hbxb : bx < base) (hbb : b < base) (hbase : base ≤ w.heap.size)
    (hbox : w.cell? ⟨bx, 0, none⟩ = some (.map (some b))) (h : Dec w base b es) (hd : ∀ j, j < d.length → w.cell? ⟨pb, po + j, none⟩ = some (.int .u8 (d.getD j 0)))
    (hlen : d.length ≤ 1099511627776) (hs : Pl.seen es c = false) :
    Calls Ybaf.prog 22 #[.int .u8 c, .slice (some ⟨pb, po, none⟩) d.length pcap, .pointer (some ⟨bx, 0, none⟩)] w fun e w' => e = .returned (.tuple #[]) ∧ Dec w' base b (es ++ [((c : Int), d)]) ∧ KeptBut base b w w' := by
  obtain ⟨f, vs, hmap, hfam, hfv⟩ := h
  have hfc := hfv c hc
  rw [hs] at hfc
  simp only [Bool.false_eq_true, if_false] at hfc
  have hlk := hmap.lookup (P := Ybaf.prog) Ybaf.underlying31 Ybaf.underlying5 (zero22 w) c
  rw [hfc] at hlk
  simp only [Option.getD_none, Option.isSome_none] at hlk
  obtain ⟨i, hi, hsz, hby, hz⟩ := Ybaf.info5'
  obtain ⟨w0, hmk, hown0, hgr0⟩ := run_make_own (P := Ybaf.prog) w base 22 5 i _ 1 Ybaf.underlying22 hi hz hsz .i64 .i64 d.length (by rw [hby]; omega) (by unfold maxLen; omega) hbase
  have hk0 : ∀ g, g < w.heap.size → w0.heap[g]? = w.heap[g]? := fun g hg => hgr0.block g hg (by simp)
  have hfam0 : Fam w0 base 256 (fupd vs c (.slice (some ⟨w.heap.size, 0, none⟩) 0 d.length)) (fupd (fun i => Pl.vals es i) c []) :=
    hfam.replace (fun g _ hg => hk0 g hg) c hown0 (fun g hg => by simp [Value.ownBlock] at hg; omega)
  have hfam1 : Fam w0.drew base 256 (fupd vs c (.slice (some ⟨w.heap.size, 0, none⟩) 0 d.length)) (fupd (fun i => Pl.vals es i) c []) := hfam0
  have hd0 : ∀ j, j < d.length → w0.drew.cell? ⟨pb, po + j, none⟩ = some (.int .u8 (d.getD j 0)) := fun j hj => hgr0.cell (hd j hj) (by simp)
  have hbase0 : base ≤ w0.heap.size := Nat.le_trans hbase hgr0.size
  obtain ⟨v', w1, hap, hfam2, hgr⟩ := hfam1.append hc (some ⟨pb, po, none⟩) pcap d (fun _ => ⟨pb, po, rfl, hd0⟩) (by rw [fupd_same]; simpa using hlen) hbase0 22
  rw [fupd_same] at hap hgr
  rw [fupd_same] at hfam2
  have hrow : ∀ g, (Value.slice (some ⟨w.heap.size, 0, none⟩) 0 d.length).ownBlock = some g → base ≤ g := fun g hg => by simp [Value.ownBlock] at hg; omega
  have hkb : ∀ g, g < base → w1.heap[g]? = w.heap[g]? := fun g hg => by
    rw [hgr.block g (by show g < w0.heap.size; omega) (fun e => by have := hrow g e.symm; omega)]
    exact hk0 g (by omega)
  have hmap1 := hmap.of_block (hkb b hbb)
  obtain ⟨w2, hup, hmap2, hgr2⟩ := hmap1.update (P := Ybaf.prog) Ybaf.underlying31 Ybaf.underlying5 c v'
  have hbox0 : w0.cell? ⟨bx, 0, none⟩ = some (.map (some b)) := hgr0.cell hbox (by simp)
  have hbox1 : w1.cell? ⟨bx, 0, none⟩ = some (.map (some b)) := by rw [World.cell?_of_block (w := w) (hkb bx hbxb)]; exact hbox
  have hbox2 : w2.cell? ⟨bx, 0, none⟩ = some (.map (some b)) := hgr2.cell hbox1 (fun e => hbx (by simpa using e))
  have hv : Pl.vals es c = [] := vals_unseen es c hs
  have fin : Dec w2 base b (es ++ [((c : Int), d)]) ∧ KeptBut base b w w2 :=
    visit_end w w0.drew w1 w2 b base c d es f (fupd vs c (.slice (some ⟨w.heap.size, 0, none⟩) 0 d.length)) v' _ hc hbb (fun g hg => hk0 g (by omega)) (((Below.refl b w).grown hgr0 (by omega) (by simp)).drew) hbase0 (by rw [fupd_same]; exact hrow)
      (hfam2.congr fun i hi => by
        by_cases hic : i = c
        · subst hic; rw [fupd_same, fupd_same, hv]
        · rw [fupd_other _ _ _ hic, fupd_other _ _ _ hic, fupd_other _ _ _ hic]) (by rw [fupd_same]; exact hgr) hmap2 (by rw [Pl.cnt_snoc, hs, hfc]; simp) hgr2 (fun i hi hic => by rw [fupd_other _ _ _ hic]; exact hfv i hi)
  have Hfin : Hid (Dec w2 base b (es ++ [((c : Int), d)]) ∧ KeptBut base b w w2) := fin
  have Hhi : Hid (Ybaf.prog.info? 5 = some i) := hi
  clear hmap hfam hfam1 hfam2 hgr hkb hmap1 hmap2 hgr2 hfv hd fin hrow hfam0 hown0 hgr0 hk0 hd0 hi hsz hby hz hv
  go_enter Ybaf.func22, Ybaf.ntmps22
  go_wp2_with fail
  go_region_held3 (fun W => W.cell? ⟨bx, 0, none⟩ = some (.map (some b))) (first | exact hbox0 | exact hbox1 | exact hbox2 | go_keep) (first | (refine step_append_eq rfl _ _ 22 (by rfl) _ (.slice (some ⟨pb, po, none⟩) d.length pcap) v' (by rfl) (by rfl) hap ?_) | (refine step_mapUpdate_eq rfl _ _ _ 31 (by rfl) (.map (some b)) (.int .u8 c) v' (by rfl) (by rfl) (by rfl) hup ?_))
  go_wp2
  go_end0
  exact ⟨rfl, Hfin.out⟩

end Go.Proofs.YbulkbomyFmt
