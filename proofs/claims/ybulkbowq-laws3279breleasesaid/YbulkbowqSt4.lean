/-
  One queue of the filled rows. No walk.
-/
import Derived.Test.YbulkbowqSt3
namespace Go.Proofs.Ybulkbowq
open Go.RowKit

/-- Queue q's two slices, of m elements. -/
def Queue (wr : World) (B : Nat) (X : Nat → Nat → Int) (q m : Nat) (ra kb : Option Addr) : Prop :=
  0 < m → ra = some ⟨B + 8 + 2 * q, 0, none⟩ ∧ kb = some ⟨B + 8 + 2 * q + 1, 0, none⟩ ∧ Arr wr (B + 8 + 2 * q) 3 m (fun j => .int .i64 (X q j)) ∧ Arr wr (B + 8 + 2 * q + 1) 38 (2 * m) (fun j => .int .i64 (kc X q j))

theorem St.queue {w wr : World} {B n bB bK bD : Nat} {gIn g : Nat → Value} {bt : Nat → Int} {dr : Nat → Bool} {lK : Nat} {L : Nat → Nat} {X : Nat → Nat → Int} {top : Nat} (h : St w wr B n bB bK bD gIn g bt dr lK L X n n n n n n top) (q : Nat) (hq : q < n) :
    ∃ m ra kb, m = (if q < lK then L q else 0) ∧ (if q < n ∧ q < lK then (.slice (some ⟨B + 8 + 2 * q, 0, none⟩) (L q) (L q) : Value) else .slice none 0 0) = .slice ra m m ∧
      (if q < n ∧ q < lK then (.slice (some ⟨B + 8 + 2 * q + 1, 0, none⟩) (L q) (L q) : Value) else .slice none 0 0) = .slice kb m m ∧ Queue wr B X q m ra kb := by
  by_cases hl : q < lK
  · refine ⟨L q, _, _, by rw [if_pos hl], by rw [if_pos ⟨hq, hl⟩], by rw [if_pos ⟨hq, hl⟩], fun _ => ⟨rfl, rfl, ?_⟩⟩
    have := h.rows q hq hl
    exact this
  · refine ⟨0, none, none, by rw [if_neg hl], by rw [if_neg (fun e => hl e.2)], by rw [if_neg (fun e => hl e.2)], fun h0 => by omega⟩

/-- The longest prefix within the limit. -/
def Pref (x : Nat → Int) (m : Nat) (lim : Int) (c : Nat) : Prop := c ≤ m ∧ (∀ j, j < c → x j ≤ lim) ∧ (c < m → ¬ x c ≤ lim)

end Go.Proofs.Ybulkbowq
