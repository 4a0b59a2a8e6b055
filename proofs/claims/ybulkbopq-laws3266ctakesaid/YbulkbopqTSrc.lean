/-
  The triples that came in.
-/
import Derived.Test.YbulkbopqTModel
namespace Go.Proofs.Ybulkbopq
open Go.RowKit Go.Sort

/-- The triples that came in. -/
def SrcT (w : World) (a : Option Addr) (len : Nat) (xs : List (Nat × Nat × Nat)) : Prop :=
  xs.length = len ∧ (∀ x ∈ xs, x.1 < 256 ∧ x.2.1 < 256 ∧ x.2.2 < 18446744073709551616) ∧ (0 < len → ∃ pb po, a = some ⟨pb, po, none⟩ ∧ pb < w.heap.size ∧ ∀ i x, xs[i]? = some x → w.cell? ⟨pb, po + i * 3, none⟩ = some (.int .u8 (x.1 : Nat)) ∧ w.cell? ⟨pb, po + i * 3 + 1, none⟩ = some (.int .u8 (x.2.1 : Nat)) ∧ w.cell? ⟨pb, po + i * 3 + 2, none⟩ = some (.int .u64 (x.2.2 : Nat)))

/-- The entries as the law takes them: the key space is the byte's rest by 3. -/
def tr (xs : List (Nat × Nat × Nat)) : List (Nat × Nat × Nat) := xs.map fun x => (x.1 % 3, x.2.1, x.2.2)

theorem tr_ok {w : World} {a : Option Addr} {n : Nat} {xs : List (Nat × Nat × Nat)} (h : SrcT w a n xs) : Ok (tr xs) := by
  intro x hx
  unfold tr at hx
  obtain ⟨y, hy, rfl⟩ := List.mem_map.1 hx
  exact ⟨Nat.mod_lt _ (by omega), (h.2.1 y hy).2.1⟩

end Go.Proofs.Ybulkbopq
