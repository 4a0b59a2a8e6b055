/-
  zzs3266bbuild by its contract.
-/
import Derived.Test.YbulkbopqPartOf
import Derived.Deep.RegionHeld3
import Derived.Deep.RegionLaw
import Derived.BigRegion
namespace Go.Proofs.Ybulkbopq
open Go.RowKit

theorem info5 : ∃ i, Yba.prog.info? 5 = some i ∧ i.zero = some (.int .u8 0) ∧ i.size = 1 ∧ i.bytes = 1 := by
  have h : (Yba.prog.info? 5).map (fun i => (i.zero, i.size, i.bytes)) = some (some (.int .u8 0), 1, 1) := by kernel_rfl
  obtain ⟨i, hi, e⟩ := Option.map_eq_some_iff.1 h
  simp only [Prod.mk.injEq] at e
  exact ⟨i, hi, e.1, e.2.1, e.2.2⟩

theorem make_row (w : World) (k : Nat) (hk : k ≤ 1024) :
    ∃ W, (Instr.makeSlice 22 (.int .i64 (((k : Int) + 3) / 4)) (.int .i64 (((k : Int) + 3) / 4))).run Yba.prog w = .ok (.slice (some ⟨w.heap.size, 0, none⟩) ((k + 3) / 4) ((k + 3) / 4)) W ∧
      Arr W w.heap.size 5 ((k + 3) / 4) (fun _ => .int .u8 0) ∧ Below w.heap.size w W ∧ W.heap.size = w.heap.size + 1 := by
  obtain ⟨i5, info5, zero5, size5, bytes5⟩ := info5
  have hr := run_make (P := Yba.prog) w 22 5 i5 (.int .u8 0) Yba.underlying22 info5 zero5 .i64 .i64 (((k : Int) + 3) / 4) (((k : Int) + 3) / 4) (by omega) (Int.le_refl _) (by rw [bytes5]; omega) (by omega)
  have e : (((k : Int) + 3) / 4).toNat = (k + 3) / 4 := by omega
  rw [e, size5, Nat.mul_one] at hr
  refine ⟨_, hr, ⟨_, heap_alloc_new w _, size_madeCells _ _, fun c hc => ?_⟩, (Below.refl _ w).alloc (Nat.le_refl _) _, by simp⟩
  rw [← Array.getElem?_toList]
  show (madeCells #[.int .u8 0] ((k + 3) / 4)).toList[c]? = _
  rw [toList_madeCells_one, List.getElem?_replicate, if_pos hc]

theorem newbyte (s : Nat → Nat) (hs : ∀ j, s j < 256) (i : Nat) :
    bits .or .u8 ((Pl.pk (Pl.dg s i) (i / 4) : Nat) : Int) (bits .and .u8 ((s i : Nat) : Int) 3 * 2 ^ (i % 4 * 2) % 256) = ((Pl.pk (Pl.dg s (i + 1)) (i / 4) : Nat) : Int) := by
  obtain ⟨h1, h2⟩ := Pl.pk_step s i
  have hr : i % 4 < 4 := Nat.mod_lt _ (by omega)
  have hv : s i % 4 < 4 := Nat.mod_lt _ (by omega)
  rw [and3 (hs i), Nat.mul_comm (i % 4) 2]
  have h3 := shl_digit hr hv
  rw [IntKind.wrap_u8] at h3
  rw [h3, or_digit hr h1 hv, h2]

def zP : Array Value := Array.replicate 256 (.int .i64 0)
theorem zero122 (w : World) : (zeroValue 122).run Yba.prog w = .ok (.agg zP) w := by kernel_rfl

/-- What is built, the links ls read: the row of bytes at block R, the map at R + 1, the array at R + 2. -/
def StB (w wr : World) (R : Nat) (s : Nat → Nat) (k : Nat) (ls : List (Nat × Nat)) : Prop :=
  Arr wr R 5 ((k + 3) / 4) (fun j => .int .u8 (Pl.pk (Pl.dg s k) j : Nat)) ∧ (∃ n, MapIs wr .u32 (R + 1) (mapF (Pl.par ls)) n) ∧ Arr wr (R + 2) 122 256 (ParV (Pl.par ls)) ∧ Below R w wr ∧ R + 3 ≤ wr.heap.size

theorem mapF_nil : mapF (Pl.par []) = fun _ => none := rfl
theorem ParV_nil (c : Nat) : ParV (Pl.par []) c = .int .i64 (-1) := rfl

/-- The links so far. -/
def lks (ch pa : Nat → Nat) (j : Nat) : List (Nat × Nat) := (List.range j).map fun i => (ch i, pa i)
theorem lks_succ (ch pa : Nat → Nat) (j : Nat) : lks ch pa (j + 1) = lks ch pa j ++ [(ch j, pa j)] := by simp [lks, List.range_succ]

theorem StB.drew {w wr : World} {R : Nat} {s : Nat → Nat} {k : Nat} {ls : List (Nat × Nat)} (h : StB w wr R s k ls) : StB w wr.drew R s k ls := by
  obtain ⟨h1, ⟨n, h2⟩, h3, h4, h5⟩ := h
  exact ⟨h1.of_block rfl, ⟨n, h2.of_block rfl⟩, h3.of_block rfl, h4.drew, h5⟩

theorem StB.alloc {w wr : World} {R : Nat} {s : Nat → Nat} {k : Nat} {ls : List (Nat × Nat)} (h : StB w wr R s k ls) (o : Obj) : StB w (wr.alloc o) R s k ls := by
  obtain ⟨h1, ⟨n, h2⟩, h3, h4, h5⟩ := h
  exact ⟨h1.of_block (Below.heap_alloc _ _ _ (by omega)), ⟨n, h2.of_block (Below.heap_alloc _ _ _ (by omega))⟩, h3.of_block (Below.heap_alloc _ _ _ (by omega)), h4.alloc (by omega) _, by simp; omega⟩

theorem round_skip {w wr : World} {R : Nat} {s : Nat → Nat} {k : Nat} {ls : List (Nat × Nat)} (h : StB w wr R s k ls) (o : Obj) {c p : Nat} (hcp : ¬ p < c) : StB w (wr.alloc o) R s k (ls ++ [(c, p)]) := by
  have e : Pl.par (ls ++ [(c, p)]) = Pl.par ls := by
    funext i
    rw [Pl.par_snoc, if_neg (by simp only; omega)]
  have h' := h.alloc o
  unfold StB at h' ⊢
  rw [e]
  exact h'

theorem MapIs.congr_keys {w : World} {q : IntKind} {b n : Nat} {f g : Int → Option Value} (h : MapIs w q b f n) (e : f = g) : MapIs w q b g n := e ▸ h

/-- The map of parents by naturals alone. -/
theorem round_link {w wr : World} {R : Nat} {s : Nat → Nat} {k : Nat} {ls : List (Nat × Nat)} (h : StB w wr R s k ls) {c p : Nat} (hc : c < 256) (hcp : p < c) :
    ∃ w2, (Instr.mapUpdate 55 (.map (some (R + 1))) (.int .u32 (c : Nat)) (.int .u32 (p : Nat))).run Yba.prog (wr.alloc (.cells #[.int .u8 (c : Nat), .int .u8 (p : Nat)] 124)) = .ok () w2 ∧
      w2.cell? ⟨wr.heap.size, 0, none⟩ = some (.int .u8 (c : Nat)) ∧ w2.cell? ⟨wr.heap.size, 1, none⟩ = some (.int .u8 (p : Nat)) ∧ w2.cell? ⟨R + 1 + 1, c, none⟩ = some (ParV (Pl.par ls) c) ∧ w2.frozen? ⟨R + 1 + 1, c, none⟩ = false ∧
      wr.heap.size ≠ R + 1 + 1 ∧ StB w (w2.setCell ⟨R + 1 + 1, c, none⟩ (.int .i64 (p : Nat))) R s k (ls ++ [(c, p)]) := by
  have h5 := h.2.2.2.2
  obtain ⟨h1, ⟨n, h2⟩, h3, h4, h6⟩ := h.alloc (.cells #[.int .u8 (c : Nat), .int .u8 (p : Nat)] 124)
  obtain ⟨w2, hu, hm, hg⟩ := h2.update (P := Yba.prog) Yba.underlying55 Yba.underlying23 (c : Int) (.int .u32 (p : Nat))
  have keep : ∀ g, g < wr.heap.size + 1 → g ≠ R + 1 → w2.heap[g]? = (wr.alloc (.cells #[.int .u8 (c : Nat), .int .u8 (p : Nat)] 124)).heap[g]? := fun g hg1 hg2 => hg.block g (by simpa using hg1) (fun e => hg2 (by simpa using e))
  have k1 := keep wr.heap.size (by omega) (by omega)
  have a1 := h1.of_block (keep R (by omega) (by omega))
  have a3 := h3.of_block (keep (R + 2) (by omega) (by omega))
  have a4 : Below R w w2 := h4.grown hg (by simp; omega) (fun k hk => by cases hk; omega)
  rw [heap_alloc_new] at k1
  refine ⟨w2, hu, by simp [World.cell?, k1], by simp [World.cell?, k1], a3.cell hc, a3.frozen c, by omega, a1.set_other (by show R ≠ R + 1 + 1; omega) _, ⟨_, (hm.of_block (Below.heap_setCell _ _ _ _ (by show R + 1 ≠ R + 1 + 1; omega))).congr_keys ?_⟩, (a3.set c _).congr fun i hi => ?_, a4.setCell (by show R ≤ R + 1 + 1; omega) _, ?_⟩
  · funext i
    simp only [fput, mapF]
    rw [Pl.par_snoc]
    by_cases hic : i = (c : Int)
    · subst hic
      rw [if_pos rfl, if_pos ⟨hcp, by simp⟩]
      rfl
    · rw [if_neg hic, if_neg (by simp only; omega)]
  · simp only [ParV]
    rw [Pl.par_snoc]
    by_cases hic : i = c
    · subst hic
      rw [fupd_same, if_pos ⟨hcp, rfl⟩]
      rfl
    · rw [fupd_other _ _ hic, if_neg (by simp only; omega)]
      rfl
  · have := hg.size
    simp [World.setCell] at this ⊢
    omega

/-- What the build hands back. -/
def BuildOut (w : World) (s : Nat → Nat) (k : Nat) (ls : List (Nat × Nat)) (e : Ending) (w' : World) : Prop :=
  ∃ X C S R M A n, e = .returned (.tuple #[.pointer (some ⟨X, 0, none⟩), .pointer (some ⟨A, 0, none⟩)]) ∧ XS w' X C M ∧ Log w' C S R s k ∧ MapIs w' .u32 M (mapF (Pl.par ls)) n ∧ Arr w' A 122 256 (ParV (Pl.par ls)) ∧ X ≠ R ∧ X ≠ M ∧ Below w.heap.size w w'

theorem cell_of_block {w : World} {b o : Nat} {cs : Array Value} {t : TypeId} {v : Value} (h : w.heap[b]? = some (.cells cs t (0, 0))) (hv : cs[o]? = some v) : w.cell? ⟨b, o, none⟩ = some v ∧ w.frozen? ⟨b, o, none⟩ = false := by
  simp [World.cell?, World.frozen?, h, hv]

theorem StB.out {w wr : World} {R : Nat} {s : Nat → Nat} {k : Nat} {ls : List (Nat × Nat)} (h : StB w wr R s k ls) (hR : w.heap.size = R) (c0 c2 c3 c4 c5 c6 c7 c8 : Value) (x0 x1 x2 x3 x5 x6 x9 x10 x11 x12 x13 x14 : Value) :
    BuildOut w s k ls (.returned (.tuple #[.pointer (some ⟨wr.heap.size + 1 + 1, 0, none⟩), .pointer (some ⟨R + 1 + 1, 0, none⟩)]))
      (((wr.alloc (.cells #[.slice (some ⟨R, 0, none⟩) ((k + 3) / 4) ((k + 3) / 4)] 22)).alloc (.cells #[c0, .slice (some ⟨wr.heap.size, 0, none⟩) 1 1, c2, c3, c4, c5, c6, c7, c8] 129)).alloc
        (.cells #[x0, x1, x2, x3, .int .i32 0, x5, x6, .pointer (some ⟨wr.heap.size + 1, 0, none⟩), .map (some (R + 1)), x9, x10, x11, x12, x13, x14] 61)) := by
  have h5 := h.2.2.2.2
  obtain ⟨h1, ⟨n, h2⟩, h3, h4, h6⟩ := ((h.alloc (.cells #[.slice (some ⟨R, 0, none⟩) ((k + 3) / 4) ((k + 3) / 4)] 22)).alloc (.cells #[c0, .slice (some ⟨wr.heap.size, 0, none⟩) 1 1, c2, c3, c4, c5, c6, c7, c8] 129)).alloc (.cells #[x0, x1, x2, x3, .int .i32 0, x5, x6, .pointer (some ⟨wr.heap.size + 1, 0, none⟩), .map (some (R + 1)), x9, x10, x11, x12, x13, x14] 61)
  generalize hw1 : wr.alloc (.cells #[.slice (some ⟨R, 0, none⟩) ((k + 3) / 4) ((k + 3) / 4)] 22) = w1 at *
  generalize hw2 : w1.alloc (.cells #[c0, .slice (some ⟨wr.heap.size, 0, none⟩) 1 1, c2, c3, c4, c5, c6, c7, c8] 129) = w2 at *
  generalize hw3 : w2.alloc (.cells #[x0, x1, x2, x3, .int .i32 0, x5, x6, .pointer (some ⟨wr.heap.size + 1, 0, none⟩), .map (some (R + 1)), x9, x10, x11, x12, x13, x14] 61) = w3 at *
  have s1 : w1.heap.size = wr.heap.size + 1 := by rw [← hw1]; simp
  have s2 : w2.heap.size = wr.heap.size + 1 + 1 := by rw [← hw2]; simp [s1]
  have b1 : w3.heap[wr.heap.size]? = some (.cells #[.slice (some ⟨R, 0, none⟩) ((k + 3) / 4) ((k + 3) / 4)] 22 (0, 0)) := by
    rw [← hw3, Below.heap_alloc _ _ _ (by omega), ← hw2, Below.heap_alloc _ _ _ (by omega), ← hw1, heap_alloc_new]
  have b2 : w3.heap[wr.heap.size + 1]? = some (.cells #[c0, .slice (some ⟨wr.heap.size, 0, none⟩) 1 1, c2, c3, c4, c5, c6, c7, c8] 129 (0, 0)) := by
    rw [← hw3, Below.heap_alloc _ _ _ (by omega), ← hw2, ← s1, heap_alloc_new]
  have b3 : w3.heap[wr.heap.size + 1 + 1]? = some (.cells #[x0, x1, x2, x3, .int .i32 0, x5, x6, .pointer (some ⟨wr.heap.size + 1, 0, none⟩), .map (some (R + 1)), x9, x10, x11, x12, x13, x14] 61 (0, 0)) := by
    rw [← hw3, ← s2, heap_alloc_new]
  exact ⟨_, wr.heap.size + 1, wr.heap.size, R, R + 1, R + 2, n, rfl, ⟨x0, x2, x3, (cell_of_block b3 rfl).1, (cell_of_block b3 rfl).1, (cell_of_block b3 rfl).1, (cell_of_block b3 rfl).1, (cell_of_block b3 (o := 4) rfl).2, (cell_of_block b3 rfl).1, (cell_of_block b3 rfl).1⟩, ⟨(cell_of_block b2 rfl).1, (cell_of_block b1 rfl).1, h1⟩, h2, h3, by omega, by omega, hR ▸ h4⟩

set_option maxRecDepth 100000 in
set_option maxHeartbeats 1600000 in
theorem build_calls (w : World) (a0 a1 : Option Addr) (k cap0 l cap1 : Nat) (s ch pa : Nat → Nat) (hk : k ≤ 1024) (hl : l ≤ 1024) (hs : ∀ j, s j < 256) (hch : ∀ j, ch j < 256) (hpa : ∀ j, pa j < 256)
    (hst : 0 < k → ∃ pb po, a0 = some ⟨pb, po, none⟩ ∧ pb < w.heap.size ∧ ∀ j, j < k → w.cell? ⟨pb, po + j, none⟩ = some (.int .u8 (s j : Nat)))
    (hls : 0 < l → ∃ qb qo, a1 = some ⟨qb, qo, none⟩ ∧ qb < w.heap.size ∧ ∀ j, j < l → w.cell? ⟨qb, qo + j * 2, none⟩ = some (.int .u8 (ch j : Nat)) ∧ w.cell? ⟨qb, qo + j * 2 + 1, none⟩ = some (.int .u8 (pa j : Nat))) :
    Calls Yba.prog 12 #[.slice a0 k cap0, .slice a1 l cap1] w fun e w' => BuildOut w s k (lks ch pa l) e w' := by
  have hki : (k : Int) ≤ 1024 := by omega
  obtain ⟨W0, hmk, hA0, hB0, hS0⟩ := make_row w k hk
  have z122 := zero122
  have hmm : ∀ w : World, (Instr.makeMap 55 none).run Yba.prog w = .ok (.map (some w.heap.size)) (w.alloc (.map #[] 0)) := fun _ => by kernel_rfl
  generalize hR : w.heap.size = R at *
  go_enter Yba.func12, Yba.ntmps12
  go_wp2_with fail
  go_loopw [7] (fun iv wr => ∃ i, i ≤ k ∧ iv = .int .i64 (i : Nat) ∧ Arr wr R 5 ((k + 3) / 4) (fun j => .int .u8 (Pl.pk (Pl.dg s i) j : Nat)) ∧ Below R w wr ∧ wr.heap.size = R + 1) (fun iv _ => k - (intOf iv).toNat)
  case atStart => exact ⟨0, by omega, rfl, hA0.congr fun c _ => by rw [Pl.pk_none]; rfl, hB0, hS0⟩
  case round =>
    obtain ⟨i, hik, rfl, hA, hB, hS⟩ := hrel
    by_cases hlt : i < k
    · obtain ⟨pb, po, rfl, hpb, hcell⟩ := hst (by omega)
      have hi : (i : Int) < (k : Int) := by omega
      have hq : (i : Int) / 4 < (((k + 3) / 4 : Nat) : Int) := by omega
      have hq0 : (0 : Int) ≤ (i : Int) / 4 := by omega
      have hqn : ((i : Int) / 4).toNat = i / 4 := by omega
      have g0 : wr.cell? ⟨pb, po + i, none⟩ = some (.int .u8 (s i : Nat)) := by rw [hB.cell hpb]; exact hcell i hlt
      have g1 := hA.cell (c := i / 4) (by omega)
      have f1 := hA.frozen (i / 4)
      have hm0 : (0 : Int) ≤ (i : Int) % 4 := by omega
      have hm1 : (i : Int) % 4 < 4 := by omega
      have hne : pb ≠ R := by omega
      clear hst hls hcell hmk hA0 hB0 z122 hmm
      go_wp2_with fail
      go_region
      go_wp2_with fail
      refine ⟨⟨i + 1, by omega, by go_num, ?_, ?_, ?_⟩, by simp [intOf]; omega⟩
      · refine Arr.of_block (w := wr.setCell ⟨R, i / 4, none⟩ (.int .u8 (Pl.pk (Pl.dg s (i + 1)) (i / 4) : Nat))) ?_ ?_
        · refine (hA.set (i / 4) _).congr fun c hc => ?_
          by_cases hci : c = i / 4
          · subst hci; rw [fupd_same]
          · rw [fupd_other _ _ hci, Pl.pk_other s i c hci]
        · rw [newbyte s hs i]; rfl
      · exact (hB.setCell (by simp) _).drew
      · simpa [World.setCell] using hS
    · have hi : ¬ (i : Int) < (k : Int) := by omega
      obtain rfl : i = k := by omega
      clear hst hmk hA0 hB0 hS0
      go_wp2_with fail
      have hA1 : Arr ((wr.alloc (.map #[] 0)).alloc (.cells zP 122)) R 5 ((i + 3) / 4) (fun j => .int .u8 (Pl.pk (Pl.dg s i) j : Nat)) :=
        hA.of_block ((Below.heap_alloc _ _ _ (by simp; omega)).trans (Below.heap_alloc _ _ _ (by omega)))
      have hM1 : MapIs ((wr.alloc (.map #[] 0)).alloc (.cells zP 122)) .u32 (R + 1) (mapF (Pl.par [])) 0 := by
        have h := MapIs.made wr .u32
        rw [hS] at h
        exact h.of_block (Below.heap_alloc _ _ _ (by simp; omega))
      have hP1 : Arr ((wr.alloc (.map #[] 0)).alloc (.cells zP 122)) (R + 2) 122 256 (fun _ => .int .i64 0) := by
        have h := Arr.made (wr.alloc (.map #[] 0)) 256 (.int .i64 0) 122
        rw [World.size_alloc, hS] at h
        exact h
      have hB1 : Below R w ((wr.alloc (.map #[] 0)).alloc (.cells zP 122)) := (hB.alloc (by omega) _).alloc (by simp; omega) _
      have hS1 : ((wr.alloc (.map #[] 0)).alloc (.cells zP 122)).heap.size = R + 3 := by simp [hS]
      generalize (wr.alloc (.map #[] 0)).alloc (.cells zP 122) = W1 at *
      clear hA hB hS hmm z122
      clear wr
      go_loopw [10] (fun iv wr => ∃ j, j ≤ 256 ∧ iv = .int .i64 (j : Nat) ∧ Arr wr R 5 ((i + 3) / 4) (fun j => .int .u8 (Pl.pk (Pl.dg s i) j : Nat)) ∧ MapIs wr .u32 (R + 1) (mapF (Pl.par [])) 0 ∧ Arr wr (R + 2) 122 256 (fun c => .int .i64 (if c < j then -1 else 0)) ∧ Below R w wr ∧ wr.heap.size = R + 3) (fun iv _ => 256 - (intOf iv).toNat)
      case atStart => exact ⟨0, by omega, rfl, hA1, hM1, hP1, hB1, hS1⟩
      case round =>
        obtain ⟨j, hj, rfl, hA, hM, hQ, hB, hS⟩ := hrel
        by_cases hlt : j < 256
        · have hji : (j : Int) < 256 := by omega
          have g1 := hQ.cell hlt
          have f1 := hQ.frozen j
          clear hls hA1 hM1 hP1 hB1 hS1
          go_wp2_with fail
          refine ⟨⟨j + 1, by omega, by go_num, hA.set_other (by show R ≠ R + 1 + 1; omega) _, hM.of_block (Below.heap_setCell _ _ _ _ (by show R + 1 ≠ R + 1 + 1; omega)), (hQ.set j _).congr fun c hc => ?_, hB.setCell (by show R ≤ R + 1 + 1; omega) _, by simpa [World.setCell] using hS⟩, by simp [intOf]; omega⟩
          by_cases hcj : c = j
          · subst hcj; rw [fupd_same, if_pos (by omega)]
          · rw [fupd_other _ _ hcj]
            by_cases h1 : c < j
            · rw [if_pos h1, if_pos (by omega)]
            · rw [if_neg h1, if_neg (by omega)]
        · have hji : ¬ (j : Int) < 256 := by omega
          obtain rfl : j = 256 := by omega
          have hst0 : StB w wr R s i (lks ch pa 0) := ⟨hA, ⟨0, hM⟩, hQ.congr fun c hc => by rw [if_pos hc]; rfl, hB, by omega⟩
          clear hA1 hM1 hP1 hB1 hS1 hA hM hQ hB hS
          clear W1
          go_wp2_with fail
          go_loopw [54] (fun iv wr => ∃ j, j ≤ l ∧ iv = .int .i64 (j : Nat) ∧ StB w wr R s i (lks ch pa j)) (fun iv _ => l - (intOf iv).toNat)
          case atStart => exact ⟨0, by omega, rfl, hst0⟩
          case round =>
            clear hst0
            obtain ⟨j, hjl, rfl, hst0⟩ := hrel
            by_cases hlt : j < l
            · obtain ⟨qb, qo, rfl, hqb, hcell⟩ := hls (by omega)
              have hjl' : (j : Int) < (l : Int) := by omega
              have g1 : wr.cell? ⟨qb, qo + j * 2, none⟩ = some (.int .u8 (ch j : Nat)) := by rw [hst0.2.2.2.1.cell hqb]; exact (hcell j hlt).1
              have g2 : wr.cell? ⟨qb, qo + j * 2 + 1, none⟩ = some (.int .u8 (pa j : Nat)) := by rw [hst0.2.2.2.1.cell hqb]; exact (hcell j hlt).2
              have hcj := hch j
              have hpj := hpa j
              have hcj' : (ch j : Int) < 256 := by omega
              have hpj' : (pa j : Int) < 256 := by omega
              by_cases hpc : pa j < ch j
              · obtain ⟨w2, hu, c0, c1, c2, f2, hne, hfin⟩ := round_link hst0 hcj hpc
                have Hfin : Hid (StB w (w2.setCell ⟨R + 1 + 1, ch j, none⟩ (.int .i64 (pa j : Nat))) R s i (lks ch pa (j + 1))) := by rw [lks_succ]; exact hfin
                clear hfin hst0 hls hcell hch hpa hs
                go_wp2_with fail
                go_region
                go_wp2_with fail
                exact ⟨⟨j + 1, by omega, by go_num, Hfin.out.drew⟩, by simp [intOf]; omega⟩
              · have hfin : StB w (wr.alloc (.cells #[.int .u8 (ch j : Nat), .int .u8 (pa j : Nat)] 124)) R s i (lks ch pa (j + 1)) := by
                  rw [lks_succ]
                  exact round_skip hst0 _ hpc
                clear hst0 hls hcell hch hpa hs
                go_wp2_with fail
                exact ⟨⟨j + 1, by omega, by go_num, hfin⟩, by simp [intOf]; omega⟩
            · have hjl' : ¬ (j : Int) < (l : Int) := by omega
              obtain rfl : j = l := by omega
              clear hls
              go_wp2_with fail
              refine bodyPost_ret (results_tmp2 rfl _ _ _) rfl ?_
              exact hst0.out hR _ _ _ _ _ _ _ _ _ _ _ _ _ _ _ _ _ _ _ _
end Go.Proofs.Ybulkbopq
