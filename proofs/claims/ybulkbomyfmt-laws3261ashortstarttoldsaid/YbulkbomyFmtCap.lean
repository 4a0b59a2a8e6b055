/-
  notCapture by its contract: whatever the start: a new error of errors.New's make.
-/
import Derived.Test.YbulkbomyFmtIs
import Derived.Stop.FmtLaws
import Derived.Stop.CallBack
import Derived.Stop.IfaceNil
import Derived.Laws.Cells
import Derived.Stop.FmtTextSlices
namespace Go.Proofs.YbulkbomyFmt
open Go.RowKit Go.Extern.Stop Go.Stop Go.Extern

theorem Ybaf.call19 (args : Array Value) (w : World) : (callFunc 19 args).run Ybaf.prog w = ((FmtStop.errorf #[9, 63] #[25] args).run Ybaf.prog w).andThen fun v w' => .ok (.value v) w' :=
  run_callFunc_extern Ybaf.func19 (by kernel_rfl) (by kernel_rfl) (by kernel_rfl) (by kernel_rfl) args w
theorem Ybaf.guard (name : String) (w : World) : (FmtStop.guard name).run Ybaf.prog w = .ok () w := by kernel_rfl
def Ybaf.shape3 : List UInt8 := [5, 3, 0, 0, 0, 0, 0, 0, 0, 105, 110, 116]
theorem Ybaf.op3_100w (name : String) (x : Int) (w : World) : (FmtStop.operand name true 100 false (.iface 3 (.int .i64 x))).run Ybaf.prog w = .ok (Ybaf.shape3, digits 8 (x % 18446744073709551616).toNat) w := by kernel_rfl
theorem Ybaf.fmt1 (w : World) : (FmtDoors.printed ⟨#[110, 111, 116, 32, 97, 32, 112, 99, 97, 112, 32, 111, 114, 32, 112, 99, 97, 112, 110, 103, 32, 102, 105, 108, 101, 58, 32, 111, 110, 108, 121, 32, 37, 100, 32, 98, 121, 116, 101, 115, 32, 108, 111, 110, 103]⟩ 1).run Ybaf.prog w = .ok [(0, 100, false)] w := by kernel_rfl
theorem Ybaf.fmt2 (w : World) : (FmtDoors.printed ⟨#[110, 111, 116, 32, 97, 32, 112, 99, 97, 112, 32, 111, 114, 32, 112, 99, 97, 112, 110, 103, 32, 102, 105, 108, 101, 58, 32, 105, 116, 115, 32, 102, 105, 114, 115, 116, 32, 98, 121, 116, 101, 115, 32, 97, 114, 101, 32, 37, 32, 120]⟩ 1).run Ybaf.prog w = .ok [(0, 120, false)] w := by kernel_rfl
theorem Ybaf.elem77 (w : World) : (elemOf 77).run Ybaf.prog w = .ok 79 w := by kernel_rfl
theorem Ybaf.ptrTo (w : World) : (FmtStop.ptrTo "errors.errorString").run Ybaf.prog w = .ok 77 w := by kernel_rfl

set_option maxRecDepth 100000 in
set_option maxHeartbeats 400000 in
theorem notCapture_short (a : Option Addr) (len cap : Nat) (w : World) (hl : len < 4) :
    Calls Ybaf.prog 8 #[.slice a len cap] w fun e w' => e = .returned (.iface 77 (.pointer (some ⟨w.heap.size + 1, 0, none⟩))) ∧
      ∃ s : ByteArray, w' = ((w.alloc (.cells #[.iface 3 (.int .i64 len)] 20)).alloc (.cells #[.string s] 79)).drew := by
  have c19 := Ybaf.call19
  have g := Ybaf.guard
  have o3 := Ybaf.op3_100w
  have pt := Ybaf.ptrTo
  have f1 := Ybaf.fmt1
  have e7 := Ybaf.elem77
  have hl' : (len : Int) < 4 := by omega
  go_enter Ybaf.func8, Ybaf.ntmps8
  go_wp2
  go_ret
  exact ⟨rfl, _, rfl⟩

def Ybaf.shape22 : List UInt8 := 13 :: (FmtStop.pack [91, 93, 117, 105, 110, 116, 56] ++ 6 :: FmtStop.pack [117, 105, 110, 116, 56])

def okOr {α : Type} (d : α) : Result α → α
  | .ok a _ => a
  | .halt _ _ => d

theorem Ybaf.value5 (name : String) (x : Int) (w : World) : (FmtStop.value name FmtStop.depth 5 [.int .u8 x]).run Ybaf.prog w = .ok (digits 8 (x % 2 ^ 64).toNat) w := by kernel_rfl

theorem Ybaf.values5 (name : String) (w : World) : ∀ xs : List Int, (List.mapM ((fun c => FmtStop.value name FmtStop.depth 5 [c]) ∘ Value.int IntKind.u8) xs).run Ybaf.prog w = .ok (xs.map fun x => digits 8 (x % 18446744073709551616).toNat) w
  | [] => by simp [List.mapM_nil]
  | x :: xs => by
    have ih := Ybaf.values5 name w xs
    have h := Ybaf.value5 name x w
    simp [List.mapM_cons, h, ih, Result.andThen]

theorem Ybaf.opBytes_120w (name : String) (a : Addr) (cap : Nat) (xs : List Int) (w : World) (hc : ∀ j v, (xs.map (Value.int .u8))[j]? = some v → w.cell? (a.add j) = some v) :
    ∃ sh, (FmtStop.operand name true 120 false (.iface 22 (.slice (some a) xs.length cap))).run Ybaf.prog w = .ok (sh, 1 :: (digits 8 xs.length ++ FmtText.intValues xs)) w := by
  obtain ⟨s1, h1⟩ : ∃ s1, (typeStr 22).run Ybaf.prog w = .ok s1 w := ⟨okOr default ((typeStr 22).run Ybaf.prog w), by kernel_rfl⟩
  have d2 : Ybaf.t22.desc = .slice 5 := rfl
  have hb : (FmtStop.bare (FmtStop.asked true 120 false) 22).run Ybaf.prog w = .ok true w := by kernel_rfl
  have hs : (FmtStop.scalar 5).run Ybaf.prog w = .ok true w := by kernel_rfl
  have hy : (Extern.Stop.isByte 5).run Ybaf.prog w = .ok true w := by kernel_rfl
  have hw : Ybaf.prog.funcs.any (·.name == FmtStop.writeWord) = true := by kernel_rfl
  obtain ⟨s2, hsh⟩ : ∃ s2, (FmtStop.shape name (FmtStop.asked true 120 false) FmtStop.depth 5).run Ybaf.prog w = .ok s2 w := ⟨okOr [] ((FmtStop.shape name (FmtStop.asked true 120 false) FmtStop.depth 5).run Ybaf.prog w), by kernel_rfl⟩
  have hl := run_loadCells_list (P := Ybaf.prog) w a (xs.map (Value.int .u8)) hc
  rw [List.length_map] at hl
  refine ⟨13 :: (FmtStop.pack s1.toUTF8.data.toList ++ s2), ?_⟩
  simp [FmtStop.operand, h1, hb, hs, hy, hsh, hl, Ybaf.values5, FmtText.intValues]
  intro hno
  obtain ⟨i, hi, _, _, he⟩ := Array.any_iff_exists.1 hw
  exact absurd (by simpa using he) (hno i hi)

set_option maxRecDepth 100000 in
set_option maxHeartbeats 400000 in
theorem notCapture_long (b off len cap : Nat) (x0 x1 x2 x3 : Int) (w : World) (hl : 4 ≤ len) (hcap : len ≤ cap) (hm : cap ≤ maxLen) (hb : b < w.heap.size)
    (c0 : w.cell? ⟨b, off, none⟩ = some (.int .u8 x0)) (c1 : w.cell? ⟨b, off + 1, none⟩ = some (.int .u8 x1)) (c2 : w.cell? ⟨b, off + 2, none⟩ = some (.int .u8 x2)) (c3 : w.cell? ⟨b, off + 3, none⟩ = some (.int .u8 x3)) :
    Calls Ybaf.prog 8 #[.slice (some ⟨b, off, none⟩) len cap] w fun e w' => e = .returned (.iface 77 (.pointer (some ⟨w.heap.size + 1, 0, none⟩))) ∧
      ∃ s : ByteArray, w' = ((w.alloc (.cells #[.iface 22 (.slice (some ⟨b, off, none⟩) 4 cap)] 20)).alloc (.cells #[.string s] 79)).drew := by
  unfold maxLen at hm
  obtain ⟨sh, hop⟩ := Ybaf.opBytes_120w "fmt.errorf" ⟨b, off, none⟩ cap [x0, x1, x2, x3] (w.alloc (.cells #[.iface 22 (.slice (some ⟨b, off, none⟩) 4 cap)] 20)) (fun j v hj => by
    match j, hj with
    | 0, hj => simp at hj; subst hj; simpa [Addr.add, World.cell?_alloc_lt, hb] using c0
    | 1, hj => simp at hj; subst hj; simpa [Addr.add, World.cell?_alloc_lt, hb] using c1
    | 2, hj => simp at hj; subst hj; simpa [Addr.add, World.cell?_alloc_lt, hb] using c2
    | 3, hj => simp at hj; subst hj; simpa [Addr.add, World.cell?_alloc_lt, hb] using c3)
  simp only [List.length_cons, List.length_nil, Nat.zero_add, Nat.reduceAdd] at hop
  have c19 := Ybaf.call19
  have g := Ybaf.guard
  have pt := Ybaf.ptrTo
  have f1 := Ybaf.fmt2
  have e7 := Ybaf.elem77
  have hl' : ¬ (len : Int) < 4 := by omega
  go_enter Ybaf.func8, Ybaf.ntmps8
  go_wp2
  go_ret
  exact ⟨rfl, _, rfl⟩

/-- Whatever the start: a new error of errors.New's make; nothing old has turned. -/
theorem notCapture_any (a : Option Addr) (len cap : Nat) (cs : List Int) (w : World) (hcap : len ≤ cap) (hm : cap ≤ maxLen) (hcs : cs.length = len)
    (hc : 0 < len → ∃ b off, a = some ⟨b, off, none⟩ ∧ ∀ j, j < len → w.cell? ⟨b, off + j, none⟩ = some (.int .u8 (cs.getD j 0))) :
    Calls Ybaf.prog 8 #[.slice a len cap] w fun e w' => e = .returned (.iface 77 (.pointer (some ⟨w.heap.size + 1, 0, none⟩))) ∧
      Below w.heap.size w w' ∧ w'.heap.size = w.heap.size + 2 ∧ ∃ s : ByteArray, w'.heap[w.heap.size + 1]? = some (.cells #[.string s] 79 (0, 0)) := by
  have fin : ∀ (o : Obj) (s : ByteArray), Below w.heap.size w ((w.alloc o).alloc (.cells #[.string s] 79)).drew ∧ ((w.alloc o).alloc (.cells #[.string s] 79)).drew.heap.size = w.heap.size + 2 ∧
      ∃ s' : ByteArray, ((w.alloc o).alloc (.cells #[.string s] 79)).drew.heap[w.heap.size + 1]? = some (.cells #[.string s'] 79 (0, 0)) := by
    intro o s
    refine ⟨(((Below.refl _ w).alloc (Nat.le_refl _) o).alloc (by simp) _).drew, by simp, s, ?_⟩
    show ((w.heap.push o).push _)[w.heap.size + 1]? = _
    rw [Array.getElem?_push, if_pos (by simp)]
  by_cases hl : len < 4
  · refine (notCapture_short a len cap w hl).mono ?_
    rintro e w' ⟨rfl, s, rfl⟩
    exact ⟨rfl, fin _ s⟩
  · obtain ⟨b, off, rfl, hcell⟩ := hc (by omega)
    have c0 := hcell 0 (by omega)
    have c1 := hcell 1 (by omega)
    have c2 := hcell 2 (by omega)
    have c3 := hcell 3 (by omega)
    refine (notCapture_long b off len cap _ _ _ _ w (by omega) hcap hm (World.block_lt_of_cell? _ _ c0) c0 c1 c2 c3).mono ?_
    rintro e w' ⟨rfl, s, rfl⟩
    exact ⟨rfl, fin _ s⟩

end Go.Proofs.YbulkbomyFmt
