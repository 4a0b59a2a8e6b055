/-
  One queue behind the release. No walk.
-/
import Derived.Test.YbulkbowqFin
namespace Go.Proofs.Ybulkbowq
open Go.RowKit

/-- Queue i behind the release: l elements were there, the first st are gone. -/
def After (w' : World) (B : Nat) (X : Nat → Nat → Int) (i l st : Nat) (ka ra : Option Addr) : Prop :=
  (0 < l → ra = some ⟨B + 8 + 2 * i, 0, none⟩ ∧ ∀ j, j < l → w'.cell? ⟨B + 8 + 2 * i, j, none⟩ = some (.int .i64 (X i j))) ∧
  (0 < l - st → ka = some ⟨B + 8 + 2 * i + 1, 0, none⟩ ∧ ∀ j, j < l - st → w'.cell? ⟨B + 8 + 2 * i + 1, j * 2, none⟩ = some (.int .i64 (X i (st + j))) ∧ w'.cell? ⟨B + 8 + 2 * i + 1, j * 2 + 1, none⟩ = some (.int .i64 (10000 * (i : Int) + (st : Int) + (j : Int))))

theorem Fin1.queue {w w' : World} {B n bB bK bD Z q m c p : Nat} {gIn : Nat → Value} {own reach : Int} {bt : Nat → Int} {dr : Nat → Bool} {lK : Nat} {L : Nat → Nat} {X : Nat → Nat → Int} {kb : Option Addr} {rv : Value}
    (h : Fin1 w w' B n bB bK bD Z q m c p gIn own reach bt dr lK L X kb rv) (hm : m = if q < lK then L q else 0) (hcm : c ≤ m) (hkb : 0 < m → kb = some ⟨B + 8 + 2 * q + 1, 0, none⟩) (i : Nat) (hi : i < n) :
    ∃ l ka kcap ra, l = (if i < lK then L i else 0) ∧ w'.cell? ⟨bK, i, none⟩ = some (.slice ka (l - if i = q then c else 0) kcap) ∧ w'.cell? ⟨B + 5, i, none⟩ = some (.slice ra l l) ∧ After w' B X i l (if i = q then c else 0) ka ra := by
  have hk := h.kept.cell hi
  have hr := h.rnds.cell hi
  by_cases hl : i < lK
  · rw [if_pos hl] at hr
    have rows := h.rows i hi hl
    by_cases e : i = q
    · subst e
      rw [if_pos hl] at hm
      subst hm
      by_cases hc0 : 0 < c
      · rw [if_pos ⟨rfl, hc0⟩] at hk
        refine ⟨L i, kb, _, _, by rw [if_pos hl], by rw [if_pos rfl]; exact hk, hr, fun _ => ⟨rfl, fun j hj => rows.cell hj⟩, fun h0 => ?_⟩
        rw [if_pos rfl] at h0 ⊢
        refine ⟨hkb (by omega), fun j hj => ?_⟩
        have kq := h.kepq (by omega)
        have k1 := kq.cell (c := j * 2) (by omega)
        have k2 := kq.cell (c := j * 2 + 1) (by omega)
        rw [if_pos (by omega), show 2 * c + j * 2 = 2 * (c + j) by omega, kc_even] at k1
        rw [if_pos (by omega), show 2 * c + (j * 2 + 1) = 2 * (c + j) + 1 by omega, kc_odd] at k2
        refine ⟨k1, ?_⟩
        rw [k2, show 10000 * (i : Int) + ((c + j : Nat) : Int) = 10000 * (i : Int) + (c : Int) + (j : Int) by omega]
      · have c0 : c = 0 := by omega
        subst c0
        rw [if_neg (by omega), if_pos hl] at hk
        refine ⟨L i, _, _, _, by rw [if_pos hl], by rw [if_pos rfl]; exact hk, hr, fun _ => ⟨rfl, fun j hj => rows.cell hj⟩, fun h0 => ?_⟩
        rw [if_pos rfl] at h0 ⊢
        refine ⟨rfl, fun j hj => ?_⟩
        have kq := h.kepq (by omega)
        have k1 := kq.cell (c := j * 2) (by omega)
        have k2 := kq.cell (c := j * 2 + 1) (by omega)
        rw [if_pos (by omega), show 2 * 0 + j * 2 = 2 * (0 + j) by omega, kc_even] at k1
        rw [if_pos (by omega), show 2 * 0 + (j * 2 + 1) = 2 * (0 + j) + 1 by omega, kc_odd] at k2
        refine ⟨k1, ?_⟩
        rw [k2, show 10000 * (i : Int) + ((0 + j : Nat) : Int) = 10000 * (i : Int) + ((0 : Nat) : Int) + (j : Int) by omega]
    · rw [if_neg (fun x => e x.1), if_pos hl] at hk
      refine ⟨L i, _, _, _, by rw [if_pos hl], by rw [if_neg e]; exact hk, hr, fun _ => ⟨rfl, fun j hj => rows.cell hj⟩, fun h0 => ?_⟩
      rw [if_neg e] at h0 ⊢
      refine ⟨rfl, fun j hj => ?_⟩
      have kq := h.keps i hi hl e
      have k1 := kq.cell (c := j * 2) (by omega)
      have k2 := kq.cell (c := j * 2 + 1) (by omega)
      rw [show j * 2 = 2 * j by omega, kc_even] at k1
      rw [show j * 2 + 1 = 2 * j + 1 by omega, kc_odd] at k2
      rw [show j * 2 = 2 * j by omega, Nat.zero_add]
      refine ⟨k1, ?_⟩
      rw [k2, show 10000 * (i : Int) + ((j : Nat) : Int) = 10000 * (i : Int) + ((0 : Nat) : Int) + (j : Int) by omega]
  · rw [if_neg hl] at hr
    have hk' : w'.cell? ⟨bK, i, none⟩ = some (.slice none 0 0) := by
      by_cases e : i = q ∧ 0 < c
      · obtain ⟨rfl, h0⟩ := e
        rw [if_neg hl] at hm
        omega
      · rw [if_neg e, if_neg hl] at hk
        exact hk
    exact ⟨0, none, 0, none, by rw [if_neg hl], by rw [Nat.zero_sub]; exact hk', hr, fun h0 => by omega, fun h0 => by omega⟩

end Go.Proofs.Ybulkbowq
