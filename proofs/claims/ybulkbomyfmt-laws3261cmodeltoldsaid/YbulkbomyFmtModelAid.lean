/-
  zzs3261cmodel's loop, as the worlds go; a whole array read, stored back into itself, handed back. No walk.
-/
import Derived.Test.YbulkbomyFmtRound
import Derived.Deep.MidRow
import Derived.Deep.QuietTactic
namespace Go.Proofs.YbulkbomyFmt
open Go.RowKit

theorem Pl.len_le (es : List (Int × List Int)) : es.length ≤ (Pl.enc es).length := by
  induction es with
  | nil => simp
  | cons e r ih =>
    have h2 : Pl.enc (e :: r) = (e.1 :: (e.2.length : Int) :: e.2) ++ Pl.enc r := rfl
    rw [h2, List.length_append, List.length_cons, List.length_cons, List.length_cons]
    omega

/-- The model's state: vals in block B, seen in block B + 1; the slices each in a row of its own. -/
def StM (w wr : World) (B : Nat) (vs : Nat → Value) (es : List (Int × List Int)) : Prop :=
  Fam wr (B + 2) 256 vs (fun i => Pl.vals es i) ∧ Arr wr B 34 vs ∧ Arr wr (B + 1) 35 (fun c => .bool (Pl.seen es c)) ∧ Below B w wr ∧ B + 2 ≤ wr.heap.size

theorem round_model (w wr : World) (B : Nat) (vs : Nat → Value) (es : List (Int × List Int)) (h : StM w wr B vs es) (c : Nat) (hc : c < 256) (a : Option Addr) (dcap : Nat) (d : List Int) (hsrc : Src w B a d)
    (hlen : (Pl.enc es).length + d.length ≤ 1048576) :
    wr.cell? ⟨B + 1, c, none⟩ = some (.bool (Pl.seen es c)) ∧ wr.frozen? ⟨B + 1, c, none⟩ = false ∧
    ∃ av nv cv w5,
      (if Pl.seen es c then wr else wr.setCell ⟨B + 1, c, none⟩ (.bool true)).drew.cell? ⟨B, c, none⟩ = some (vs c) ∧
      (Builtin.append_ #[22, 22] 22 #[vs c, .slice a d.length dcap]).run Ybaf.prog (if Pl.seen es c then wr else wr.setCell ⟨B + 1, c, none⟩ (.bool true)).drew = .ok (.slice av nv cv) w5 ∧
      w5.cell? ⟨B, c, none⟩ = some (vs c) ∧ w5.frozen? ⟨B, c, none⟩ = false ∧
      ∃ vs', StM w (w5.setCell ⟨B, c, none⟩ (.slice av nv cv)) B vs' (es ++ [((c : Int), d)]) := by
  obtain ⟨hfam3, hV3, hS3, hb3, hs3⟩ := h
  have hvl := Pl.vals_length es c
  refine ⟨hS3.cell hc, hS3.frozen c, ?_⟩
  have mid : ∃ w4, w4 = (if Pl.seen es c then wr else wr.setCell ⟨B + 1, c, none⟩ (.bool true)) ∧ Arr w4 (B + 1) 35 (fun i => .bool (Pl.seen (es ++ [((c : Int), d)]) i)) ∧ Arr w4 B 34 vs ∧ Below B w w4 ∧ B + 2 ≤ w4.heap.size ∧ ∀ g, g ≠ B + 1 → w4.heap[g]? = wr.heap[g]? := by
    refine ⟨_, rfl, ?_⟩
    cases hs : Pl.seen es c with
    | true =>
      simp only [if_true]
      refine ⟨hS3.congr fun i hi => ?_, hV3, hb3, hs3, fun _ _ => trivial⟩
      rw [Pl.seen_snoc]
      by_cases hic : i = c
      · subst hic; simp [hs]
      · have : ((c : Int) == (i : Int)) = false := by simp; omega
        rw [this, Bool.or_false]
    | false =>
      simp only [Bool.false_eq_true, if_false]
      refine ⟨(hS3.set c (.bool true)).congr fun i hi => ?_, hV3.set_other (by simp) _, hb3.setCell (by simp) _, by simp [World.setCell]; omega, fun g hg => Below.heap_setCell _ _ _ _ hg⟩
      rw [Pl.seen_snoc]
      by_cases hic : i = c
      · subst hic; simp [fupd_same]
      · have : ((c : Int) == (i : Int)) = false := by simp; omega
        rw [this, Bool.or_false, fupd_other _ _ _ hic]
  obtain ⟨w4, hw4, hS4, hV4, hb4, hs4, hk4⟩ := mid
  have hfam4 : Fam w4.drew (B + 2) 256 vs (fun i => Pl.vals es i) := hfam3.kept (w' := w4.drew) (fun g hg _ => hk4 g (by omega))
  have hsrc4 := hsrc.at (wr := w4.drew) (fun g hg => hb4.block g hg)
  obtain ⟨v3, w5, e3, hfam5, hg5⟩ := hfam4.append (c := c) hc a dcap d hsrc4 (by omega) hs4 22
  obtain ⟨av, nv, cv, rfl⟩ : ∃ a n c, v3 = .slice a n c := by
    have := hfam5.1 c hc
    rw [fupd_same] at this
    exact this.shape
  have hk5 : ∀ g, g < B + 2 → w5.heap[g]? = w4.heap[g]? := fun g hg => grown_low hfam4 hc hg5 hg hs4
  have hs5 : B + 2 ≤ w5.heap.size := by have := hg5.size; exact Nat.le_trans hs4 this
  have hV5 : Arr w5 B 34 vs := hV4.of_block (hk5 _ (by omega))
  have hS5 := hS4.of_block (hk5 (B + 1) (by omega))
  have hb5 : Below B w w5 := (hb4.drew).grown hg5 (by show B ≤ w4.heap.size; omega) (fun k hk => by have := ((hfam4.1 c hc).own_lt hk).1; omega)
  refine ⟨av, nv, cv, w5, hw4 ▸ hV4.cell hc, hw4 ▸ e3, hV5.cell hc, hV5.frozen c, fupd vs c (.slice av nv cv), ?_, hV5.set c _, hS5.set_other (by simp) _, hb5.setCell (Nat.le_refl _) _, ?_⟩
  · refine (hfam5.kept (w' := w5.setCell ⟨B, c, none⟩ (.slice av nv cv)) (fun g hg _ => Below.heap_setCell _ _ _ _ (by simp; omega))).congr fun i hi => ?_
    by_cases hic : i = c
    · subst hic
      rw [fupd_same, Pl.vals_snoc, if_pos rfl]
    · rw [fupd_other _ _ _ hic, Pl.vals_snoc, if_neg (by omega)]
  · simp [World.setCell]; omega

/-! ### A whole array -/
theorem setCell_same {w : World} {b o : Nat} {v : Value} (h : w.cell? ⟨b, o, none⟩ = some v) : w.setCell ⟨b, o, none⟩ v = w := by
  unfold World.setCell
  congr 1
  apply Array.ext_getElem?
  intro i
  rw [Array.getElem?_modify]
  split
  · rename_i hi
    subst hi
    cases hb : w.heap[b]? with
    | none => simp
    | some ob =>
      cases ob with
      | cells c t fr =>
        simp only [World.cell?, hb] at h
        simp only [Option.map_some, Option.some.injEq, Option.isSome_none, Bool.false_eq_true, if_false, Obj.cells.injEq, and_true]
        apply Array.ext_getElem?
        intro j
        rw [Array.getElem?_setIfInBounds]
        by_cases hj : o = j
        · subst hj
          have h' : c[o]? = some v := by simpa using h
          rw [if_pos rfl, if_pos (Array.getElem?_eq_some_iff.1 h').1, h']
        · rw [if_neg hj]
      | map => simp [World.cell?, hb] at h
      | _ => rfl
  · rfl

theorem setCells_same (b : Nat) : ∀ (cs : List Value) (o : Nat) (w : World), w.rangeAt b o cs → w.setCells b o cs = w
  | [], _, _, _ => rfl
  | v :: r, o, w, h => by
    have h0 : w.setCell ⟨b, o, none⟩ v = w := setCell_same (by simpa using h 0 v rfl)
    rw [World.setCells, h0]
    exact setCells_same b r (o + 1) w fun j u hj => by have := h (j + 1) u hj; rwa [show o + (j + 1) = o + 1 + j by omega] at this

section
variable {P : Program} {ops : Array Oper} {C : World → Prop} {Q : Act → Prop} {a : Act} {o : Oper} {rest : List Oper}

theorem wpQuiet_load_arr (hgd : o.guard = none) (ty : TypeId) (x : Operand) (ho : o.op = .load ty x) (b off : Nat) (cs : List Value) (d : TypeDesc) (hx : a.eval x = .pointer (some ⟨b, off, none⟩)) (hC : ∀ w, C w → w.rangeAt b off cs)
    (hu : P.underlying ty = some d) (hd : d.isRow = true) (hi : (P.info? ty).map (·.size) = some cs.length) (h : wpQuiet P ops C Q rest (a.put o.dst (.agg cs.toArray))) : wpQuiet P ops C Q (o :: rest) a := by
  refine wpQuiet_step fun K hK => ?_
  rw [if_pos (by simp [Region.wanted, hgd])]
  refine ⟨.agg cs.toArray, fun w hw => ?_, hK _ h⟩
  unfold Oper.quietAt execOp
  simp only [ho, hx, Instr.loadAt, Instr.sureAddr, Sem.run_bind, Sem.run_pure, Result.andThen_ok, run_loadVar_mid w b off ty cs d (hC w hw) hu hd hi]
  exact ⟨rfl, rfl⟩

theorem wpQuiet_store_arr (hgd : o.guard = none) (ty : TypeId) (x y : Operand) (ho : o.op = .store ty x y) (b off : Nat) (cs : List Value) (hx : a.eval x = .pointer (some ⟨b, off, none⟩)) (hy : a.eval y = .agg cs.toArray)
    (hC : ∀ w, C w → w.rangeAt b off cs ∧ w.there b off cs.toArray.size) (hi : (P.info? ty).map (·.size) = some cs.toArray.size) (h1 : cs.toArray.all (·.oneCell') = true)
    (h : wpQuiet P ops C Q rest (a.put o.dst undef)) : wpQuiet P ops C Q (o :: rest) a := by
  refine wpQuiet_step fun K hK => ?_
  rw [if_pos (by simp [Region.wanted, hgd])]
  refine ⟨undef, fun w hw => ?_, hK _ h⟩
  unfold Oper.quietAt execOp
  simp only [ho, hx, hy, Instr.storeAt, Instr.sureAddr, Sem.run_bind, Sem.run_pure, Result.andThen_ok, run_storeVar_mid w b off ty cs.toArray (hC w hw).2 hi h1]
  exact ⟨setCells_same b cs off w (hC w hw).1, rfl⟩
end

/-- The cells of such a block, as a list. -/
def cellsOf (g : Nat → Value) : List Value := (List.range 256).map g

theorem cellsOf_len (g : Nat → Value) : (cellsOf g).length = 256 := by simp [cellsOf]

theorem Arr.range {w : World} {B : Nat} {t : TypeId} {g : Nat → Value} (h : Arr w B t g) : w.rangeAt B 0 (cellsOf g) := by
  intro j v hj
  have hlt : j < 256 := by have := (List.getElem?_eq_some_iff.1 hj).1; rwa [cellsOf_len] at this
  unfold cellsOf at hj
  rw [List.getElem?_map, List.getElem?_range hlt] at hj
  simp only [Option.map_some, Option.some.injEq] at hj
  rw [Nat.zero_add, h.cell hlt, hj]

theorem Arr.there {w : World} {B : Nat} {t : TypeId} {g : Nat → Value} (h : Arr w B t g) : w.there B 0 (cellsOf g).toArray.size := by
  intro j hj
  have hlt : j < 256 := by simpa [cellsOf_len] using hj
  rw [Nat.zero_add, h.cell hlt]
  exact ⟨rfl, h.frozen j⟩

theorem results_model {fn : Func} {p q r s u : Tmp} {t1 t2 : TypeId} (h : fn.results = #[.cell p t1, .cell q t2, .tmp r, .tmp s, .tmp u]) {tmps : Array Value} {P : Program} {w : World} {a1 a2 : Addr} {v1 v2 : Value}
    (hp : tmps.getD p undef = .pointer (some a1)) (hq : tmps.getD q undef = .pointer (some a2)) (h1 : (loadVar t1 a1).run P w = .ok v1 w) (h2 : (loadVar t2 a2).run P w = .ok v2 w) :
    (results fn tmps).run P w = .ok (.tuple #[v1, v2, tmps.getD r undef, tmps.getD s undef, tmps.getD u undef]) w := by
  simp only [Array.getD_eq_getD_getElem?] at hp hq
  simp only [results, h]
  simp [Sem.run_bind, Result.andThen, hp, hq, asAddr, h1, h2]

end Go.Proofs.YbulkbomyFmt
