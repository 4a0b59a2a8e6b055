/-
  errors.Is, errors.Unwrap at an error of errors.New's make, by contracts, over this seat's program (turned from the guide's worked SentryIs.lean).
-/
import Derived.Test.YbulkbomyFmtChecked
import Derived.WalkKit
import Derived.WalkSpells
import Derived.WalkLawsBesides
import Derived.LaidEql
import Derived.Stop.Asserts
import Derived.RowKitTokens
namespace Go.Proofs.YbulkbomyFmt
open Go.RowKit Go.Extern.Stop Go.Stop Go.Extern

theorem Ybaf.isTypeOf (v : Value) (w : World) : (Extern.ReflectliteType.typeOf #[.iface 77 v]).run Ybaf.prog w = .ok (.iface 67 (.agg #[.pointer (some ⟨2, 77, none⟩)])) w := by kernel_rfl
theorem Ybaf.isComparable (w : World) : (callFunc 45 #[.agg #[.pointer (some ⟨2, 77, none⟩)]]).run Ybaf.prog w = .ok (.value (.bool true)) w := by
  rw [run_callFunc_extern (e := Extern.ReflectliteType.method fun t => do Extern.Rtype.noPackHeld "Comparable" t; pure (.bool (← typeInfo t).comparable)) Ybaf.func45 (by kernel_rfl) (by kernel_rfl) (by kernel_rfl) (by kernel_rfl)]
  kernel_rfl
theorem Ybaf.isComp : (Ybaf.prog.info? 77).map (·.comparable) = some true := by kernel_rfl
theorem Ybaf.isSize : (Ybaf.prog.info? 79).map (·.size) = some 1 := by kernel_rfl
theorem Ybaf.noIsE (v : Value) (xT : TypeId) (w : World) : (Instr.typeAssert (.iface 77 v) xT 69 true).run Ybaf.prog w = .ok (.tuple #[.nilIface, .bool false]) w := run_typeAssert_lacksB Ybaf.underlying69 (by kernel_rfl) (by kernel_rfl) v xT w
theorem Ybaf.noUnwrapE (v : Value) (xT : TypeId) (w : World) : (Instr.typeAssert (.iface 77 v) xT 56 true).run Ybaf.prog w = .ok (.tuple #[.nilIface, .bool false]) w := run_typeAssert_lacksB Ybaf.underlying56 (by kernel_rfl) (by kernel_rfl) v xT w
theorem Ybaf.noUnwrapsE (v : Value) (xT : TypeId) (w : World) : (Instr.typeAssert (.iface 77 v) xT 72 true).run Ybaf.prog w = .ok (.tuple #[.nilIface, .bool false]) w := run_typeAssert_lacksB Ybaf.underlying72 (by kernel_rfl) (by kernel_rfl) v xT w
theorem Ybaf.isMethodComparable (v : Value) (w : World) : (Go.method 220 67 v "Comparable").run Ybaf.prog w = .ok (45, v) w := by kernel_rfl

set_option maxRecDepth 100000 in
set_option maxHeartbeats 400000 in
/-- errors.Is(x, y), two different pointers to errors.errorString: false. -/
theorem is_other (a b : Addr) (ca cb : Array Value) (ta tb : TypeId) (w : World) (hne : a ≠ b) (ha : w.heap[a.block]? = some (.cells ca ta (0, 0))) (hb : w.heap[b.block]? = some (.cells cb tb (0, 0))) :
    Calls Ybaf.prog 9 #[.iface 77 (.pointer (some a)), .iface 77 (.pointer (some b))] w fun e w' => e = .returned (.bool false) ∧ w' = w := by
  obtain ⟨i, hi, hcmp⟩ := Option.map_eq_some_iff.1 Ybaf.isComp
  obtain ⟨j, hj, hjs⟩ := Option.map_eq_some_iff.1 Ybaf.isSize
  have h8 := @run_callFunc_extern Ybaf.prog 16 _ Extern.ReflectliteType.typeOf Ybaf.func16 (by kernel_rfl) (by kernel_rfl) (by kernel_rfl) (by kernel_rfl)
  have tT := Ybaf.isTypeOf
  have cT := Ybaf.isComparable
  have mR := Ybaf.isMethodComparable
  have nE := Ybaf.noIsE
  have uE := Ybaf.noUnwrapE
  have vE := Ybaf.noUnwrapsE
  have heq := run_eql_iface_ptr_other (P := Ybaf.prog) w Ybaf.underlying25 Ybaf.underlying77 hi hcmp hj (by rw [hjs]; decide) hne ha hb
  go_enter Ybaf.func9, Ybaf.ntmps9
  go_wp2
  refine wp_loop_rounds 1 ?_
  rw [rounds_succ]
  go_wp2
  go_ret
  exact ⟨rfl, rfl⟩

/-- errors.Unwrap(x), x a pointer to an errors.errorString: nil. -/
theorem unwrap_nil (a : Addr) (w : World) :
    Calls Ybaf.prog 10 #[.iface 77 (.pointer (some a))] w fun e w' => e = .returned .nilIface ∧ w' = w := by
  have uE := Ybaf.noUnwrapE
  go_enter Ybaf.func10, Ybaf.ntmps10
  go_wp2
  go_ret
  exact ⟨rfl, rfl⟩

end Go.Proofs.YbulkbomyFmt
