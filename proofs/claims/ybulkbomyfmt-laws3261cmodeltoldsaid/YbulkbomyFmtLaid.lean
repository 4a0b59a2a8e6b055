/-
  What the cell 'laid' gives at one sentinel, with what '==' wants besides; a start that fits; closed facts of this seat's program.
-/
import Derived.Test.YbulkbomyFmtTie
import Derived.Test.YbulkbomyFmtCards
import Derived.ProofKit
import Derived.Stop.JoinedAt
import Derived.Stop.JoinedTold
import Derived.Stop.LaidErr
import Derived.Deep.DeepLaidRun
import Derived.SevenTiedAt
import Derived.ChangeOld
import Derived.Below
namespace Go.Proofs.YbulkbomyFmt
open Go.ChangeShapes Go.WideShapes Go.ChangeAt Go.RowKit Go.Extern.Stop Go.Stop Go.Extern

theorem own : ownKnob Ybaf.prog.godebug = none := by kernel_rfl
theorem laidOut : laidOutB Ybaf.prog = true := by kernel_rfl
theorem stopsAre : Ybaf.pinned.checked.prog.stops = ["fmt.errorf", "fmt.Sprintf"] := by kernel_rfl
theorem stopKnobs : Ybaf.pinned.checked.prog.stopKnobs = [] := by kernel_rfl
theorem quiet (os : Os) : Stop.quiet Ybaf.pinned.checked.prog os := by
  intro k hk
  rw [stopKnobs] at hk
  cases hk

/-- The name of the listed sentinel's dynamic type, out of the given datum. -/
def eofName : String := match (Rows.laid_io_EOF : DataW Unit) with
  | .iface n _ => n
  | _ => default

theorem row77 (u : TypeId) (h : Ybaf.prog.typeName? 3 u = some eofName) : u = 77 :=
  typeName_ptr_named (nm := "errors.errorString") (by kernel_rfl) (by kernel_rfl) (by decide) u (h.trans (by kernel_rfl))

/-- One sentinel: the variable holds it; its row of cells bears the frozen range (0, 0). -/
theorem laid_sentinel_row {P : Program} {n nm : String} {text : List UInt8} {r : List (String × DataW Unit)} {W : World} {g : Nat} {ti tp te ts : TypeId} {ms : Array (String × TypeId)} {f : Field}
    (h : laidMet P ((n, .iface nm (.ptr (.agg [.lit (.string text)]))) :: r) W)
    (hg : P.globalNamed n = some g) (ht : (P.globals[g]?).map (·.type) = some ti) (hi : P.underlying ti = some (.interface ms)) (hrow : ∀ u, P.typeName? 3 u = some nm → u = tp)
    (hp : P.underlying tp = some (.pointer te)) (he : P.underlying te = some (.struct #[f])) (hft : f.type = ts) (hfo : f.offset = 0) (hs : P.underlying ts = some .string) (hc : P.cellsOf te = 1) (hcs : P.cellsOf ts = 1) :
    ∃ (a : Addr) (c : Array Value) (t : TypeId), W.var? P n = some #[.iface tp (.pointer (some a))] ∧ W.heap[a.block]? = some (.cells c t (0, 0)) := by
  obtain ⟨ps, ⟨g0, t0, cs0, f0, p0, q0, hg0, ht0, hv0, hd0, _, e0⟩, _, hrows⟩ := h
  obtain rfl := Option.some.inj (hg.symm.trans hg0)
  obtain rfl := Option.some.inj (ht.symm.trans ht0)
  subst e0
  obtain ⟨l0⟩ := cs0
  have ok0 : ∀ u v, l0 = [.iface u v] → Value.okWide P W .any 0 u v := fun u v e => by
    subst e
    exact (hrows g 0 (by simp [MemPlace.row])).2 u v (by simpa using World.var?_cell hg0 hv0 0)
  obtain ⟨a0, s0, rfl, hc0, hs0, hz0, rfl⟩ := errorString_of_trod hi hrow hp he hft hfo hs hc hcs hd0 ok0
  obtain ⟨c0, t0, hb0⟩ := (hrows a0.block a0.off (by simp [MemPlace.row])).1
  exact ⟨a0, c0, t0, hv0, hb0⟩

/-- The settled world with one block more; variable number g holds v of that block's number. -/
def laidW (P : Program) (os : Os) (blk : Obj) (g : Nat) (v : Nat → Array Value) : World :=
  let w0 := World.holding P os ⟨#[blk], #[], []⟩
  { w0 with heap := w0.heap.modify g fun
      | .cells _ t fr => .cells (v (World.holding P default ⟨#[], #[], []⟩).heap.size) t fr
      | o => o }

def eofBytes : ByteArray := ⟨#[69, 79, 70]⟩
theorem gE : Ybaf.prog.globalNamed "io.EOF" = some 0 := by kernel_rfl
theorem gEType : (Ybaf.prog.globals[0]?).map (·.type) = some 25 := by kernel_rfl
theorem cells79 : Ybaf.prog.cellsOf 79 = 1 := by kernel_rfl
theorem cells9 : Ybaf.prog.cellsOf 9 = 1 := by kernel_rfl
theorem cells5 : Ybaf.prog.cellsOf 5 = 1 := by kernel_rfl

theorem laidE_met (os : Os) (args : Array Value) : laidMet Ybaf.prog Rows.lawS3261ARefusesRow.laid ((laidW Ybaf.prog os (.cells #[.string eofBytes] 79) 0 (fun n => #[.iface 77 (.pointer (some ⟨n, 0, none⟩))])).forCall (fun _ _ => 0) ⟨#[], args, []⟩).memory :=
  laidMet_of_run3 8 (by kernel_rfl) (by kernel_rfl) (by kernel_rfl)

/-- What 'laid' gives the walks: the variable's cell; the sentinel's row. -/
theorem eof_of_laid {W : World} (h : laidMetH Ybaf.prog Rows.lawS3261ARefusesRow.laid W) :
    ∃ (ae : Addr) (cb : Array Value) (tb : TypeId), W.cell? ⟨0, 0, none⟩ = some (.iface 77 (.pointer (some ae))) ∧ W.heap[ae.block]? = some (.cells cb tb (0, 0)) := by
  obtain ⟨ae, cb, tb, hv, hb⟩ := laid_sentinel_row (r := []) h gE gEType Ybaf.underlying25 row77 Ybaf.underlying77 Ybaf.underlying79 rfl rfl Ybaf.underlying9 cells79 cells9
  exact ⟨ae, cb, tb, by simpa using World.var?_cell gE hv 0, hb⟩

end Go.Proofs.YbulkbomyFmt
