/-
  A block of 256 cells, by what they hold; the built sub-options.
-/
import Derived.Test.YbulkbomyFmtMatch
namespace Go.Proofs.YbulkbomyFmt
open Go.RowKit

/-- Block B is a row of 256 cells, none frozen; cell c holds g c. -/
def Arr (w : World) (B : Nat) (t : TypeId) (g : Nat → Value) : Prop := ∃ arr : Array Value, w.heap[B]? = some (.cells arr t (0, 0)) ∧ arr.size = 256 ∧ ∀ c, c < 256 → arr[c]? = some (g c)

theorem Arr.cell {w : World} {B : Nat} {t : TypeId} {g : Nat → Value} (h : Arr w B t g) {c : Nat} (hc : c < 256) : w.cell? ⟨B, c, none⟩ = some (g c) := by
  obtain ⟨arr, hb, _, ha⟩ := h
  rw [cell_of_row w B c arr t (0, 0) hb]
  exact ha c hc

theorem Arr.frozen {w : World} {B : Nat} {t : TypeId} {g : Nat → Value} (h : Arr w B t g) (c : Nat) : w.frozen? ⟨B, c, none⟩ = false := by
  obtain ⟨arr, hb, _⟩ := h
  simp [World.frozen?, hb]

theorem Arr.lt {w : World} {B : Nat} {t : TypeId} {g : Nat → Value} (h : Arr w B t g) : B < w.heap.size := by
  obtain ⟨arr, hb, _⟩ := h
  exact (Array.getElem?_eq_some_iff.1 hb).1

theorem Arr.of_block {w w' : World} {B : Nat} {t : TypeId} {g : Nat → Value} (h : Arr w B t g) (hb : w'.heap[B]? = w.heap[B]?) : Arr w' B t g := by
  obtain ⟨arr, hh, r⟩ := h
  exact ⟨arr, hb.trans hh, r⟩

theorem Arr.set {w : World} {B : Nat} {t : TypeId} {g : Nat → Value} (h : Arr w B t g) (c : Nat) (v : Value) : Arr (w.setCell ⟨B, c, none⟩ v) B t (fupd g c v) := by
  obtain ⟨arr, hb, hs, ha⟩ := h
  refine ⟨arr.setIfInBounds c v, ?_, by simpa using hs, fun d hd => ?_⟩
  · simp [World.setCell, Array.getElem?_modify, hb]
  · rw [Array.getElem?_setIfInBounds]
    by_cases hdc : c = d
    · subst hdc
      rw [if_pos rfl, if_pos (by omega), fupd_same]
    · rw [if_neg hdc, fupd_other _ _ _ (Ne.symm hdc)]
      exact ha d hd

theorem Arr.set_other {w : World} {B : Nat} {t : TypeId} {g : Nat → Value} (h : Arr w B t g) {p : Addr} (hp : B ≠ p.block) (v : Value) : Arr (w.setCell p v) B t g :=
  h.of_block (Below.heap_setCell _ _ _ _ hp)

theorem Arr.congr {w : World} {B : Nat} {t : TypeId} {g g' : Nat → Value} (h : Arr w B t g) (e : ∀ c, c < 256 → g c = g' c) : Arr w B t g' := by
  obtain ⟨arr, hb, hs, ha⟩ := h
  exact ⟨arr, hb, hs, fun c hc => by rw [← e c hc]; exact ha c hc⟩

def zV : Array Value := Array.replicate 256 (.slice none 0 0)
def zS : Array Value := Array.replicate 256 (.bool false)
theorem zero34 (w : World) : (zeroValue 34).run Ybaf.prog w = .ok (.agg zV) w := by kernel_rfl
theorem zero35 (w : World) : (zeroValue 35).run Ybaf.prog w = .ok (.agg zS) w := by kernel_rfl

theorem Arr.made (w : World) (v : Value) (t : TypeId) : Arr (w.alloc (.cells (Array.replicate 256 v) t)) w.heap.size t (fun _ => v) :=
  ⟨Array.replicate 256 v, heap_alloc_new w _, by simp, fun c hc => by simp [hc]⟩

/-- The first k sub-options, each cut to 255 bytes. -/
def ents (code : Nat → Nat) (xs : Nat → List Int) (k : Nat) : List (Int × List Int) := (List.range k).map fun j => ((code j : Int), (xs j).take 255)

theorem ents_succ (code : Nat → Nat) (xs : Nat → List Int) (k : Nat) : ents code xs (k + 1) = ents code xs k ++ [((code k : Int), (xs k).take 255)] := by
  simp [ents, List.range_succ]

theorem ents_len (code : Nat → Nat) (xs : Nat → List Int) : ∀ k, (Pl.enc (ents code xs k)).length ≤ 257 * k
  | 0 => by simp [ents, Pl.enc]
  | k + 1 => by
    have := ents_len code xs k
    rw [ents_succ, Pl.enc_snoc, List.length_append, List.length_cons, List.length_cons, List.length_take]
    omega

theorem ents_bytes (code : Nat → Nat) (xs : Nat → List Int) (n : Nat) (hc : ∀ k, k < n → code k < 256) (hx : ∀ k, k < n → ∀ x ∈ xs k, 0 ≤ x ∧ x ≤ 255) :
    ∀ k, k ≤ n → ∀ x ∈ Pl.enc (ents code xs k), 0 ≤ x ∧ x ≤ 255
  | 0, _ => by simp [ents, Pl.enc]
  | k + 1, hk => by
    intro x h
    rw [ents_succ, Pl.enc_snoc, List.mem_append] at h
    rcases h with h | h
    · exact ents_bytes code xs n hc hx k (by omega) x h
    · simp only [List.mem_cons, List.length_take] at h
      have := hc k (by omega)
      rcases h with rfl | rfl | h
      · omega
      · omega
      · exact hx k (by omega) x (List.mem_of_mem_take h)

end Go.Proofs.YbulkbomyFmt
