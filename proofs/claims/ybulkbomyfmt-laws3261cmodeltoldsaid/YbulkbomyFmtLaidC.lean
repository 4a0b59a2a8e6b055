/-
  What the cell 'laid' gives at the variable subOptions; the variable read again; a start that fits.
-/
import Derived.Test.YbulkbomyFmtLaid
import Derived.WalkSmall
import Derived.OpenShut
namespace Go.Proofs.YbulkbomyFmt
open Go.ChangeShapes Go.WideShapes Go.ChangeAt Go.RowKit Go.Extern.Stop Go.Stop Go.Extern

/-- The listed variable's name, out of the given row. -/
def subName : String := match Rows.lawS3261CBuiltRow.laid with
  | (n, _) :: _ => n
  | [] => default

theorem gS : Ybaf.prog.globalNamed subName = some 1 := by kernel_rfl
theorem gSType : (Ybaf.prog.globals[1]?).map (·.type) = some 61 := by kernel_rfl
theorem cells61 : Ybaf.prog.cellsOf 61 = 2 := by kernel_rfl
theorem cells4 : Ybaf.prog.cellsOf 4 = 1 := by kernel_rfl

theorem two_of {α : Type} {l : List α} (h : l.length = 2) : ∃ a b, l = [a, b] := by
  match l, h with
  | [a, b], _ => exact ⟨a, b, rfl⟩

/-- A layout's two cells, read. -/
theorem lay_of {H : Type} {enc : TypeId × Value → H} {W : World} {sp : Nat → Bool} {held : Bool} {fuel : Nat} {cs : List Value} {x : DataW H × List MemPlace} (h : DataW.trod enc Ybaf.prog W 0 sp held fuel 61 cs = some x) :
    ∃ (b : Bool) (s : ByteArray), cs = [.bool b, .string s] ∧ x = (.agg [.lit (.bool b), .lit (.string s.data.toList)], []) ∧ s.size ≤ maxLen := by
  obtain ⟨y0, y1, n, rfl, hl, h0, h1⟩ := trod_struct2 Ybaf.underlying61 h
  rw [cells61] at hl
  obtain ⟨c0, c1, rfl⟩ := two_of hl
  obtain ⟨b, e0, rfl⟩ := DataW.trod_bool Ybaf.underlying4 h0
  obtain ⟨s, e1, rfl, hs⟩ := DataW.trod_string Ybaf.underlying9 h1
  simp only [List.drop_zero, cells4, cells9, List.take_succ_cons, List.take_zero, List.cons.injEq, and_true, List.drop_succ_cons] at e0 e1
  subst e0 e1
  exact ⟨b, s, rfl, rfl, hs⟩

theorem lay_mk {H : Type} (enc : TypeId × Value → H) (W : World) (sp : Nat → Bool) (b : Bool) (s : ByteArray) (hs : s.size ≤ maxLen) :
    DataW.trod enc Ybaf.prog W 0 sp true 2 61 [.bool b, .string s] = some (.agg [.lit (.bool b), .lit (.string s.data.toList)], []) := by
  have h := trod_struct2_mk (enc := enc) (w := W) (base := 0) (spare := sp) (held := true) (n := 1) (cs := [.bool b, .string s]) (y0 := (.lit (.bool b), [])) (y1 := (.lit (.string s.data.toList), [])) Ybaf.underlying61 (by rw [cells61]; rfl)
    (by simp [DataW.trod, Ybaf.underlying4, cells4]) (by simp [DataW.trod, Ybaf.underlying9, cells9, hs])
  simpa using h

/-- What 'laid' gives the walks. -/
theorem sub_of_laid {W : World} (h : laidMetH Ybaf.prog Rows.lawS3261CBuiltRow.laid W) :
    ∃ s : ByteArray, W.var? Ybaf.prog subName = some #[.bool false, .string s] ∧ s.size ≤ maxLen := by
  have h' : laidMet Ybaf.prog [(subName, Rows.laid_example_com_lease_logic_lease_logic_pkg_dhcpv4_subOptions)] W := h
  obtain ⟨ps, ⟨g0, t0, cs0, f0, p0, q0, hg0, ht0, hv0, hd0, _, e0⟩, _, hrows⟩ := h'
  obtain rfl := Option.some.inj (gS.symm.trans hg0)
  obtain rfl := Option.some.inj (gSType.symm.trans ht0)
  obtain ⟨b, s, hcs, hx, hs⟩ := lay_of hd0
  unfold Rows.laid_example_com_lease_logic_lease_logic_pkg_dhcpv4_subOptions at hx
  have hb : b = false := by
    simp at hx
    exact hx.1.1
  subst hb
  obtain ⟨l0⟩ := cs0
  simp only at hcs
  subst hcs
  exact ⟨s, hv0, hs⟩

theorem sub_cells {W : World} {s : ByteArray} (hv : W.var? Ybaf.prog subName = some #[.bool false, .string s]) : W.cell? ⟨1, 0, none⟩ = some (.bool false) ∧ W.cell? ⟨1, 1, none⟩ = some (.string s) :=
  ⟨by simpa using World.var?_cell gS hv 0, by simpa using World.var?_cell gS hv 1⟩

/-- The variable read again, behind a call that has turned nothing old. -/
theorem sub_again {H : Type} {enc : TypeId × Value → H} {W W' : World} {s : ByteArray} {gs : List (DataW H)} {q : List MemPlace} (hv : W.var? Ybaf.prog subName = some #[.bool false, .string s]) (hV : DataW.TrodVars enc Ybaf.prog W (fun _ => true) [subName] gs q)
    (hb : Below W.heap.size W W') : ∃ d, gs = [d] ∧ DataW.TrodVars enc Ybaf.prog W' (fun b => decide (b < W.heap.size)) [subName] [d] (MemPlace.row ⟨1, 0, none⟩ 2) := by
  match gs, hV with
  | [d], hV =>
    obtain ⟨g0, t0, cs0, f0, p0, q0, hg0, ht0, hv0, hd0, hr, e0⟩ := hV
    obtain rfl := Option.some.inj (gS.symm.trans hg0)
    obtain rfl := Option.some.inj (gSType.symm.trans ht0)
    rw [hv] at hv0
    obtain rfl := Option.some.inj hv0
    obtain ⟨b, s', hcs, hx, hs⟩ := lay_of hd0
    simp only [List.cons.injEq, Value.bool.injEq, Value.string.injEq, and_true] at hcs
    obtain ⟨rfl, rfl⟩ := hcs
    simp only [Prod.mk.injEq] at hx
    obtain ⟨rfl, rfl⟩ := hx
    refine ⟨_, rfl, 1, 61, #[.bool false, .string s], 2, [], [], gS, gSType, var?_below hb gS (by have := (sub_cells hv).1; exact block_lt_of_cell this) hv, lay_mk enc W' _ false s hs, rfl, by simp⟩

def subBytes : ByteArray := ⟨#[115, 117, 98, 45, 111, 112, 116, 105, 111, 110]⟩

theorem laidS_met (os : Os) (args : Array Value) : laidMet Ybaf.prog Rows.lawS3261CBuiltRow.laid ((laidW Ybaf.prog os (.cells #[] 79) 1 (fun _ => #[.bool false, .string subBytes])).forCall (fun _ _ => 0) ⟨#[], args, []⟩).memory :=
  laidMet_of_run3 8 (by kernel_rfl) (by kernel_rfl) (by kernel_rfl)

end Go.Proofs.YbulkbomyFmt
