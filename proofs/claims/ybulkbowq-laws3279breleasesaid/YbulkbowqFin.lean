/-
  The release at the filled rows. No walk of its own.
-/
import Derived.Test.YbulkbowqSt4
import Derived.Test.YbulkbowqRelease
namespace Go.Proofs.Ybulkbowq
open Go.RowKit

theorem kc_even (X : Nat → Nat → Int) (q j : Nat) : kc X q (2 * j) = X q j := by
  unfold kc
  rw [if_pos (by omega), show 2 * j / 2 = j by omega]
theorem kc_odd (X : Nat → Nat → Int) (q j : Nat) : kc X q (2 * j + 1) = 10000 * (q : Int) + (j : Int) := by
  unfold kc
  rw [if_neg (by omega), show (2 * j + 1) / 2 = j by omega]

/-- What stands behind the release. -/
structure Fin1 (w w' : World) (B n bB bK bD Z q m c p : Nat) (gIn : Nat → Value) (own reach : Int) (bt : Nat → Int) (dr : Nat → Bool) (lK : Nat) (L : Nat → Nat) (X : Nat → Nat → Int) (kb : Option Addr) (rv : Value) : Prop where
  inn : Arr w' B 26 8 gIn
  hold : Arr w' (B + 4) 34 8 (fupd (gH own reach n bB bK bD) 7 rv)
  beat : Arr w' bB 3 n (fun i => .int .i64 (bt i))
  kept : Arr w' bK 36 n (fun i => if i = q ∧ 0 < c then .slice kb (m - c) m else if i < lK then .slice (some ⟨B + 8 + 2 * i + 1, 0, none⟩) (L i) (L i) else .slice none 0 0)
  drop : Arr w' bD 4 n (fun i => .bool (if i = q ∧ 0 < c then false else dr i))
  rnds : Arr w' (B + 5) 28 n (fun i => if i < lK then .slice (some ⟨B + 8 + 2 * i, 0, none⟩) (L i) (L i) else .slice none 0 0)
  d0 : Arr w' (B + 6) 4 n (fun i => .bool (dr i))
  b0 : Arr w' (B + 7) 3 n (fun i => .int .i64 (bt i))
  rows : ∀ i, i < n → i < lK → Arr w' (B + 8 + 2 * i) 3 (L i) (fun j => .int .i64 (X i j))
  keps : ∀ i, i < n → i < lK → i ≠ q → Arr w' (B + 8 + 2 * i + 1) 38 (2 * L i) (fun j => .int .i64 (kc X i j))
  kepq : 0 < m → Arr w' (B + 8 + 2 * q + 1) 38 (2 * m) (fun j => .int .i64 (if j < 2 * (m - c) then kc X q (2 * c + j) else 0))
  rdy : ∃ base, Rdy w' base rv (((List.range p).map fun (i : Nat) => ((0 : Int), -1 - ((i : Nat) : Int))) ++ news q (kc X q) c)
  low : Below B w w'

theorem rel_filled {w WA WB : World} {B n bB bK bD Z q m c p : Nat} {gIn : Nat → Value} {own reach : Int} {bt : Nat → Int} {dr : Nat → Bool} {lK : Nat} {L : Nat → Nat} {X : Nat → Nat → Int} {top : Nat} {ra kb : Option Addr} {rv : Value}
    (hst : St w WA B n bB bK bD gIn (gH own reach n bB bK bD) bt dr lK L X n n n n n n top) (hZ : WA.heap.size = Z) (hZ8 : B + 8 ≤ Z) (htop : top = 2 * min n lK) (hn : n ≤ 8) (hq : q < n) (ho : I32 own) (hr : I32 reach) (hb : ∀ i, I32 (bt i)) (hX : ∀ i j, I32 (X i j))
    (hs : HS WA WB (B + 4) Z (gH own reach n bB bK bD) ((List.range p).map fun (i : Nat) => ((0 : Int), -1 - ((i : Nat) : Int))) rv) (hp : p ≤ 4) (hm : m = if q < lK then L q else 0) (hm1 : m ≤ 1024)
    (hkb : (if q < n ∧ q < lK then (.slice (some ⟨B + 8 + 2 * q + 1, 0, none⟩) (L q) (L q) : Value) else .slice none 0 0) = .slice kb m m) (hqu : Queue WA B X q m ra kb) (hc : Pref (X q) m (max own (bt q) + reach) c) :
    Calls Yba.prog 4 #[.pointer (some ⟨B + 4, 0, none⟩), .int .i64 ((q : Int) + 1)] WB fun e w' => e = .returned (.tuple #[]) ∧ ∃ rv', Fin1 w w' B n bB bK bD Z q m c p gIn own reach bt dr lK L X kb rv' := by
  have q1 := hst.pB
  have q2 := hst.pK
  have q3 := hst.pD
  have q4 := hst.pBK
  have q5 := hst.pBD
  have q6 := hst.pKD
  have sz := hst.size
  have low := hs.2.2.2.1
  have hqZ : 0 < m → q < lK := fun h0 => by
    by_cases h : q < lK
    · exact h
    · rw [hm, if_neg h] at h0; omega
  obtain ⟨b, hbd, hbZ, hb0, hbB⟩ : ∃ b, (0 < m → b = B + 8 + 2 * q + 1) ∧ b < Z ∧ (¬ 0 < m → b = B) ∧ (b = B ∨ B + 8 ≤ b) := by
    by_cases h0 : 0 < m
    · have := hqZ h0
      exact ⟨B + 8 + 2 * q + 1, fun _ => rfl, by omega, fun h => absurd h0 h, .inr (by omega)⟩
    · exact ⟨B, fun h => absurd h h0, by omega, fun _ => rfl, .inl rfl⟩
  refine (release_calls WB (B + 4) Z bB bK bD n q b m c kb (gH own reach n bB bK bD) _ rv own reach bt (fun i => if i < n ∧ i < lK then .slice (some ⟨B + 8 + 2 * i + 1, 0, none⟩) (L i) (L i) else .slice none 0 0) dr (kc X q)
    hn hq ho hr hb ⟨hs.1, hs.2.1, hs.2.2.1, fun _ _ _ => rfl, fun B' _ _ => Below.refl B' WB⟩ rfl rfl rfl rfl rfl
    ((hst.beat.of_block (low bB (by omega) (by omega))).congr fun i hi => by rw [if_pos hi]) (hst.kept.of_block (low bK (by omega) (by omega))) ((hst.drop.of_block (low bD (by omega) (by omega))).congr fun i hi => by rw [if_pos hi]) hkb hm1
    (fun h0 => ?_) (fun j hj => ?_) (by omega) (by omega) (by omega) (by omega) hbZ (by omega) (by omega) (by omega) (by omega) q4 q5 (by omega) q6 (by omega) (by omega) (by simp; omega) hc.1 (fun j hj => ?_) (fun hcm => ?_)).mono fun e w' ⟨he, hout⟩ => ⟨he, ?_⟩
  · have hqq := hqu h0
    have := hqZ h0
    rw [hbd h0]
    exact ⟨hqq.2.1, hqq.2.2.2.of_block (low _ (by omega) (by omega))⟩
  · have h1 := hX q (j / 2)
    unfold I32 at h1
    unfold kc
    split <;> omega
  · rw [kc_even]; exact hc.2.1 j hj
  · rw [kc_even]; exact hc.2.2 hcm
  · obtain ⟨rv', o1, o2, o3, o4, o5, o6, o7, o8⟩ := hout
    refine ⟨rv', ?_⟩
    have keep : ∀ x, x < Z → x ≠ B + 4 → x ≠ bK → x ≠ bD → (0 < m → x ≠ b) → w'.heap[x]? = WA.heap[x]? := fun x h1 h2 h3 h4 h5 => (o7 x h1 h2 h3 h4 h5).trans (low x h1 h2)
    exact
      { inn := hst.inn.of_block (keep B (by omega) (by omega) (by omega) (by omega) (fun h => by rw [hbd h]; omega))
        hold := o1
        beat := (hst.beat.of_block (keep bB (by omega) (by omega) (by omega) (by omega) (fun h => by rw [hbd h]; omega))).congr fun i hi => by rw [if_pos hi]
        kept := o4.congr fun i hi => by
          by_cases hc0 : c = 0
          · have e0 : ¬ (i = q ∧ 0 < c) := by omega
            rw [if_pos hc0, if_neg e0]
            by_cases hl : i < lK
            · rw [if_pos ⟨hi, hl⟩, if_pos hl]
            · rw [if_neg (fun e => hl e.2), if_neg hl]
          · rw [if_neg hc0]
            by_cases e : i = q
            · subst e; rw [fupd_same, if_pos ⟨rfl, by omega⟩]
            · have e0 : ¬ (i = q ∧ 0 < c) := fun h => e h.1
              rw [fupd_other _ _ e, if_neg e0]
              by_cases hl : i < lK
              · rw [if_pos ⟨hi, hl⟩, if_pos hl]
              · rw [if_neg (fun e => hl e.2), if_neg hl]
        drop := o5.congr fun i hi => by
          by_cases hc0 : c = 0
          · have e0 : ¬ (i = q ∧ 0 < c) := by omega
            rw [if_pos hc0, if_neg e0]
          · rw [if_neg hc0]
            by_cases e : i = q
            · subst e; rw [fupd_same, if_pos ⟨rfl, by omega⟩]
            · have e0 : ¬ (i = q ∧ 0 < c) := fun h => e h.1
              rw [fupd_other _ _ e, if_neg e0]
        rnds := (hst.rnds.of_block (keep (B + 5) (by omega) (by omega) (by omega) (by omega) (fun h => by rw [hbd h]; omega))).congr fun i hi => by
          by_cases hl : i < lK
          · rw [if_pos ⟨hi, hl⟩, if_pos hl]
          · rw [if_neg (fun e => hl e.2), if_neg hl]
        d0 := (hst.d0.of_block (keep (B + 6) (by omega) (by omega) (by omega) (by omega) (fun h => by rw [hbd h]; omega))).congr fun i hi => by rw [if_pos hi]
        b0 := (hst.b0.of_block (keep (B + 7) (by omega) (by omega) (by omega) (by omega) (fun h => by rw [hbd h]; omega))).congr fun i hi => by rw [if_pos hi]
        rows := fun i hi hl => (hst.rows i hi hl).1.of_block (keep _ (by omega) (by omega) (by omega) (by omega) (fun h => by rw [hbd h]; omega))
        keps := fun i hi hl hne => (hst.rows i hi hl).2.of_block (keep _ (by omega) (by omega) (by omega) (by omega) (fun h => by rw [hbd h]; omega))
        kepq := fun h0 => by have := o6 h0; rw [hbd h0] at this; exact this
        rdy := ⟨Z, o2⟩
        low := (hst.low.trans (hs.2.2.2.2 B (by omega) (by omega))).trans (o8 B (by omega) (by omega) (by omega) (by omega) (by omega)) }

end Go.Proofs.Ybulkbowq
