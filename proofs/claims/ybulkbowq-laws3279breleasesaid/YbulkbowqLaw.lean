/-
  LawS3279BRelease: it returns true.
-/
import Derived.Test.YbulkbowqFin2
import Derived.Deep.DeepCutAuto
import Derived.Deep.CutBlock
import Derived.Deep.LoopGhost
namespace Go.Proofs.Ybulkbowq
open Go.RowKit

/-- The messages that stand in ready ahead of the release. -/
def pres (p : Nat) : List (Int × Int) := (List.range p).map fun (i : Nat) => ((0 : Int), -1 - ((i : Nat) : Int))
theorem pres_succ (p : Nat) : pres (p + 1) = pres p ++ [(0, -1 - (p : Int))] := by simp [pres, List.range_succ]

theorem Fin1.ready {w w' : World} {B n bB bK bD Z q m c p : Nat} {gIn : Nat → Value} {own reach : Int} {bt : Nat → Int} {dr : Nat → Bool} {lK : Nat} {L : Nat → Nat} {X : Nat → Nat → Int} {kb : Option Addr} {rv : Value}
    (h : Fin1 w w' B n bB bK bD Z q m c p gIn own reach bt dr lK L X kb rv) :
    ∃ ra rc, rv = .slice ra (p + c) rc ∧ (0 < p + c → ∃ g, ra = some ⟨g, 0, none⟩ ∧
      (∀ i, i < p → w'.cell? ⟨g, i * 2, none⟩ = some (.int .i64 0) ∧ w'.cell? ⟨g, i * 2 + 1, none⟩ = some (.int .i64 (-1 - (i : Int)))) ∧
      ∀ j, j < c → w'.cell? ⟨g, (p + j) * 2, none⟩ = some (.int .i64 ((q : Int) + 1)) ∧ w'.cell? ⟨g, (p + j) * 2 + 1, none⟩ = some (.int .i64 (10000 * (q : Int) + (j : Int)))) := by
  obtain ⟨base, hr⟩ := h.rdy
  have hlen : (((List.range p).map fun (i : Nat) => ((0 : Int), -1 - ((i : Nat) : Int))) ++ news q (kc X q) c).length = p + c := by simp [news]
  obtain ⟨ra, rc, rfl⟩ := hr.shape
  rw [hlen] at hr ⊢
  refine ⟨ra, rc, rfl, fun h0 => ?_⟩
  obtain ⟨g, c', e, hc⟩ := hr.cells (by rw [hlen]; exact h0)
  injection e with e1 e2 e3
  refine ⟨g, e1, fun i hi => ?_, fun j hj => ?_⟩
  · exact hc i (0, -1 - (i : Int)) (by rw [List.getElem?_append_left (by simpa using hi)]; simp [hi])
  · have := hc (p + j) ((q : Int) + 1, kc X q (2 * j + 1)) (by rw [List.getElem?_append_right (by simp)]; simp [news, hj])
    rw [kc_odd] at this
    exact this

set_option maxRecDepth 100000 in
set_option maxHeartbeats 16000000 in
theorem law_walk (w : World) (nd pre qv : Nat) (own reach : Int) (aB aK aD : Option Addr) (lB cB lK cK lD cD : Nat) (bt : Nat → Int) (dr : Nat → Bool) (ka : Nat → Option Addr) (L cp : Nat → Nat) (X : Nat → Nat → Int)
    (hnd : nd < 256) (hpre : pre < 256) (hqv : qv < 256) (hown : I32 own) (hreach : I32 reach) (hB : SrcI w aB lB bt) (hD : SrcB w aD lD dr) (hK : SrcK w aK lK ka L cp X) :
    Calls Yba.prog 3 #[.agg #[.int .u8 (nd : Nat), .int .i32 own, .int .i32 reach, .slice aB lB cB, .slice aK lK cK, .slice aD lD cD, .int .u8 (pre : Nat), .int .u8 (qv : Nat)]] w fun e w' => e = .returned (.bool true) ∧ Below w.heap.size w w' := by
  obtain ⟨r, hr⟩ : ∃ r : Nat, (nd : Int) % 8 = (r : Int) := ⟨nd % 8, by omega⟩
  have hr8 : (r : Int) < 8 := by omega
  have hnd' : (nd : Int) < 256 := by omega
  obtain ⟨n, Hn⟩ : ∃ n, Hid (n = r + 1) := ⟨r + 1, rfl⟩
  obtain ⟨B, hBs⟩ : ∃ B, w.heap.size = B := ⟨_, rfl⟩
  obtain ⟨gIn, HgIn⟩ : ∃ gIn : Nat → Value, Hid (gIn = fun c => ([.int .u8 (nd : Nat), .int .i32 own, .int .i32 reach, .slice aB lB cB, .slice aK lK cK, .slice aD lD cD, .int .u8 (pre : Nat), .int .u8 (qv : Nat)] : List Value).getD c undef) := ⟨_, rfl⟩
  obtain ⟨bt', Hbt⟩ : ∃ f : Nat → Int, Hid (f = fun c => if c < lB then bt c else 0) := ⟨_, rfl⟩
  obtain ⟨dr', Hdr⟩ : ∃ f : Nat → Bool, Hid (f = fun c => if c < lD then dr c else false) := ⟨_, rfl⟩
  go_enter Yba.func3, Yba.ntmps3
  go_upto_block 0 with fail
  have hIn : Arr (w.alloc (.cells #[.int .u8 (nd : Nat), .int .i32 own, .int .i32 reach, .slice aB lB cB, .slice aK lK cK, .slice aD lD cD, .int .u8 (pre : Nat), .int .u8 (qv : Nat)] 26)) B 26 8 gIn := by
    rw [HgIn.out, ← hBs]
    refine ⟨_, heap_alloc_new w _, rfl, fun c hc => ?_⟩
    have : c = 0 ∨ c = 1 ∨ c = 2 ∨ c = 3 ∨ c = 4 ∨ c = 5 ∨ c = 6 ∨ c = 7 := by omega
    rcases this with rfl | rfl | rfl | rfl | rfl | rfl | rfl | rfl <;> rfl
  have hLow : Below B w (w.alloc (.cells #[.int .u8 (nd : Nat), .int .i32 own, .int .i32 reach, .slice aB lB cB, .slice aK lK cK, .slice aD lD cD, .int .u8 (pre : Nat), .int .u8 (qv : Nat)] 26)) := (Below.refl B w).alloc (by omega) _
  have hSz : (w.alloc (.cells #[.int .u8 (nd : Nat), .int .i32 own, .int .i32 reach, .slice aB lB cB, .slice aK lK cK, .slice aD lD cD, .int .u8 (pre : Nat), .int .u8 (qv : Nat)] 26)).heap.size = B + 1 := by simp [hBs]
  generalize w.alloc (.cells #[.int .u8 (nd : Nat), .int .i32 own, .int .i32 reach, .slice aB lB cB, .slice aK lK cK, .slice aD lD cD, .int .u8 (pre : Nat), .int .u8 (qv : Nat)] 26) = W0 at *
  have g4 : gIn 4 = .slice aK lK cK := by rw [HgIn.out]; rfl
  go_cut [3] from 25 to 48 (fun s3 wx => s3 = .int .i64 (n : Nat) ∧ (∀ i, i < n → i < lK → L i ≤ 1024) ∧ wx = W0)
  case first =>
    as_aux_lemma =>
      have c4 := hIn.cell (c := 4) (by omega)
      rw [g4] at c4
      go_wp2_with fail
      go_loopw [4] (fun s4 wr => ∃ i, i ≤ r + 1 ∧ s4 = .int .i64 (i : Nat) ∧ (∀ j, j < i → j < lK → L j ≤ 1024) ∧ wr = W0) (fun s4 _ => r + 1 - (intOf s4).toNat)
      case atStart => exact ⟨0, by omega, rfl, fun j hj => by omega, rfl⟩
      case round =>
        obtain ⟨i, hi, rfl, hall, rfl⟩ := hrel
        by_cases h1 : i < r + 1
        · have h1' : (i : Int) < (r : Int) + 1 := by omega
          by_cases h2 : i < lK
          · have h2' : (i : Int) < (lK : Int) := by omega
            obtain ⟨pb, po, rfl, hpb, hc⟩ := hK.2 (by omega)
            have c5 : wr.cell? ⟨pb, po + i, none⟩ = some (.slice (ka i) (L i) (cp i)) := by rw [hLow.cell (by rw [← hBs]; exact hpb)]; exact (hc i h2).1
            by_cases h3 : L i ≤ 1024
            · have h3' : ¬ (1024 : Int) < (L i : Int) := by omega
              clear hB hD hK
              go_wp2_with fail
              refine ⟨⟨i + 1, by omega, by go_num, fun j hj hjl => ?_, trivial⟩, by simp [intOf]; omega⟩
              by_cases e : j = i
              · subst e; exact h3
              · exact hall j (by omega) hjl
            · have h3' : (1024 : Int) < (L i : Int) := by omega
              clear hB hD hK
              go_wp2_with fail
              go_ret
              exact ⟨rfl, hBs ▸ hLow⟩
          · have h2' : ¬ (i : Int) < (lK : Int) := by omega
            clear hB hD hK
            go_wp2_with fail
            go_meet
            exact ⟨by rw [Hn.out]; rfl, fun j hj hjl => hall j (by omega) hjl, rfl⟩
        · have h1' : ¬ (i : Int) < (r : Int) + 1 := by omega
          clear hB hD hK
          go_wp2_with fail
          go_meet
          exact ⟨by rw [Hn.out]; rfl, fun j hj hjl => hall j (by rw [Hn.out] at hj; omega) hjl, rfl⟩
  case rest =>
    obtain ⟨rfl, hL, rfl⟩ := hcut
    have hn8 : n ≤ 8 := by rw [Hn.out]; omega
    have hn1 : 1 ≤ n := by rw [Hn.out]; omega
    clear hr hr8 hnd' hnd
    have hr1 : (0 : Int) ≤ (n : Int) ∧ (n : Int) ≤ 8 := by omega
    have ho1 : -2147483648 ≤ own ∧ own ≤ 2147483647 := hown
    have ho2 : -2147483648 ≤ reach ∧ reach ≤ 2147483647 := hreach
    have c1 : wc.cell? ⟨B, 1, none⟩ = some (.int .i32 own) := by rw [hIn.cell (by omega), HgIn.out]; rfl
    have c2 : wc.cell? ⟨B, 2, none⟩ = some (.int .i32 reach) := by rw [hIn.cell (by omega), HgIn.out]; rfl
    have m28 := mk28 n (by omega)
    have m29 := mk29 n (by omega)
    have m24 := mk24 n (by omega)
    have m35 := mk35 n (by omega)
    go_upto_region 7 with fail
    go_cut [5] from 25 to 62 (fun s5 wx => s5 = .pointer (some ⟨B + 4, 0, none⟩) ∧ ∃ bB bK bD, St0 w wx B n gIn own reach bB bK bD)
    case first =>
      as_aux_lemma =>
        go_region
        · go_wp2_with fail
          go_meet
          have h := made3 (n := n) hIn hLow hSz (.int .i64 0) (.slice none 0 0) (.bool false) 3 36 4 own reach (B + 1) (B + 2) (B + 3) _ rfl
          exact ⟨rfl, B + 1, B + 2, B + 3, ⟨by omega, by omega, by omega, by omega, by omega, by omega⟩, h.1, h.2.1, h.2.2.1, h.2.2.2.1, h.2.2.2.2.1, h.2.2.2.2.2.1, h.2.2.2.2.2.2⟩
        · go_wp2_with fail
          go_meet
          have h := made3 (n := n) hIn hLow hSz (.int .i64 0) (.bool false) (.slice none 0 0) 3 4 36 own reach (B + 1) (B + 3) (B + 2) _ rfl
          exact ⟨rfl, B + 1, B + 3, B + 2, ⟨by omega, by omega, by omega, by omega, by omega, by omega⟩, h.1, h.2.2.1, h.2.1, h.2.2.2.1, h.2.2.2.2.1, h.2.2.2.2.2.1, h.2.2.2.2.2.2⟩
        · go_wp2_with fail
          go_meet
          have h := made3 (n := n) hIn hLow hSz (.slice none 0 0) (.int .i64 0) (.bool false) 36 3 4 own reach (B + 2) (B + 1) (B + 3) _ rfl
          exact ⟨rfl, B + 2, B + 1, B + 3, ⟨by omega, by omega, by omega, by omega, by omega, by omega⟩, h.2.1, h.1, h.2.2.1, h.2.2.2.1, h.2.2.2.2.1, h.2.2.2.2.2.1, h.2.2.2.2.2.2⟩
        · go_wp2_with fail
          go_meet
          have h := made3 (n := n) hIn hLow hSz (.slice none 0 0) (.bool false) (.int .i64 0) 36 4 3 own reach (B + 3) (B + 1) (B + 2) _ rfl
          exact ⟨rfl, B + 3, B + 1, B + 2, ⟨by omega, by omega, by omega, by omega, by omega, by omega⟩, h.2.2.1, h.1, h.2.1, h.2.2.2.1, h.2.2.2.2.1, h.2.2.2.2.2.1, h.2.2.2.2.2.2⟩
        · go_wp2_with fail
          go_meet
          have h := made3 (n := n) hIn hLow hSz (.bool false) (.int .i64 0) (.slice none 0 0) 4 3 36 own reach (B + 2) (B + 3) (B + 1) _ rfl
          exact ⟨rfl, B + 2, B + 3, B + 1, ⟨by omega, by omega, by omega, by omega, by omega, by omega⟩, h.2.1, h.2.2.1, h.1, h.2.2.2.1, h.2.2.2.2.1, h.2.2.2.2.2.1, h.2.2.2.2.2.2⟩
        · go_wp2_with fail
          go_meet
          have h := made3 (n := n) hIn hLow hSz (.bool false) (.slice none 0 0) (.int .i64 0) 4 36 3 own reach (B + 3) (B + 2) (B + 1) _ rfl
          exact ⟨rfl, B + 3, B + 2, B + 1, ⟨by omega, by omega, by omega, by omega, by omega, by omega⟩, h.2.2.1, h.2.1, h.1, h.2.2.2.1, h.2.2.2.2.1, h.2.2.2.2.2.1, h.2.2.2.2.2.2⟩
    case rest =>
      obtain ⟨rfl, bB, bK, bD, hst0⟩ := hcut
      clear hIn hLow hSz c1 c2 m29
      have sz := hst0.2.2.2.2.2.2.2
      have hst1 := st_init hst0 bt' dr' lK L X
      clear hst0
      go_upto_block 2 with fail
      generalize (((wc.alloc (.cells (madeCells #[.slice none 0 0] n) 28)).alloc (.cells (madeCells #[.bool false] n) 4)).alloc (.cells (madeCells #[.int .i64 0] n) 3)) = W1 at *
      clear sz m35 m24
      go_cut [9] from 63 to 180 (fun s9 wx => s9 = .int .i64 (n : Nat) ∧ St w wx B n bB bK bD gIn (gH own reach n bB bK bD) bt' dr' lK L X n n n n n n (2 * min n lK))
      case first =>
        as_aux_lemma =>
          go_wp2_with fail
          go_loopg [9] n (fun g s9 wr => ∃ i, i ≤ n ∧ g = n - i ∧ s9 = .int .i64 (i : Nat) ∧ St w wr B n bB bK bD gIn (gH own reach n bB bK bD) bt' dr' lK L X i i i i i i (2 * min i lK))
          case atStart => exact ⟨0, by omega, rfl, rfl, by rw [Nat.zero_min]; exact hst1⟩
          case round =>
            obtain ⟨i, hi, rfl, rfl, hst⟩ := hrel
            clear hst1
            by_cases hlt : i < n
            · have hi' : (i : Int) < (n : Int) := by omega
              have c3 : wr.cell? ⟨B, 3, none⟩ = some (.slice aB lB cB) := by rw [hst.inn.cell (by omega), HgIn.out]; rfl
              go_upto_if 78 with fail
              go_cut [9] from 69 to 180 (fun s9 wx => s9 = .int .i64 (i : Nat) ∧ St w wx B n bB bK bD gIn (gH own reach n bB bK bD) bt' dr' lK L X (i + 1) i i i i i (2 * min i lK))
              case first =>
                as_aux_lemma =>
                  have h4 := hst.h4
                  have y := hst.beat.cell hlt
                  have z := hst.beat.frozen i
                  by_cases hb : i < lB
                  · have hb' : (i : Int) < (lB : Int) := by omega
                    obtain ⟨pb, po, rfl, hpb, hc⟩ := hB.2 (by omega)
                    have x1 : wr.cell? ⟨pb, po + i, none⟩ = some (.int .i32 (bt i)) := by rw [hst.low.cell (by rw [← hBs]; exact hpb)]; exact hc i hb
                    have hbi : -2147483648 ≤ bt i ∧ bt i ≤ 2147483647 := hB.1 i
                    have Hfin : Hid (St w (wr.setCell ⟨bB, i, none⟩ (.int .i64 (bt i))) B n bB bK bD gIn (gH own reach n bB bK bD) bt' dr' lK L X (i + 1) i i i i i (2 * min i lK)) := by
                      have e : bt' i = bt i := by rw [Hbt.out]; simp [hb]
                      have h := hst.bump_beat
                      rw [e] at h
                      exact h
                    clear hst hB hD hK hL m28 hc
                    go_wp2_with fail
                    go_region
                    go_wp2_with fail
                    go_meet
                    exact ⟨rfl, Hfin.out.drew⟩
                  · have hb' : ¬ (i : Int) < (lB : Int) := by omega
                    have Hfin : Hid (St w wr B n bB bK bD gIn (gH own reach n bB bK bD) bt' dr' lK L X (i + 1) i i i i i (2 * min i lK)) := hst.skip_beat (by rw [Hbt.out]; simp [hb])
                    clear hst hB hD hK hL m28
                    go_wp2_with fail
                    go_meet
                    exact ⟨rfl, Hfin.out⟩
              case rest =>
                clear hst c3
                obtain ⟨rfl, hst⟩ := hcut
                have h4 := hst.h4
                have y : wc.cell? ⟨bB, i, none⟩ = some (.int .i64 (bt' i)) := by rw [hst.beat.cell hlt, if_pos (by omega)]
                have y0 := hst.b0.cell hlt
                have z0 := hst.b0.frozen i
                have c5 : wc.cell? ⟨B, 5, none⟩ = some (.slice aD lD cD) := by rw [hst.inn.cell (by omega), HgIn.out]; rfl
                go_upto_if 105 with fail
                have hst2 : St w (wc.setCell ⟨B + 5 + 1 + 1, i, none⟩ (.int .i64 (bt' i))) B n bB bK bD gIn (gH own reach n bB bK bD) bt' dr' lK L X (i + 1) i i (i + 1) i i (2 * min i lK) := hst.bump_b0
                generalize wc.setCell ⟨B + 5 + 1 + 1, i, none⟩ (.int .i64 (bt' i)) = W2 at *
                clear hst h4 y y0 z0 c5
                go_cut [9] from 69 to 180 (fun s9 wx => s9 = .int .i64 (i : Nat) ∧ St w wx B n bB bK bD gIn (gH own reach n bB bK bD) bt' dr' lK L X (i + 1) (i + 1) i (i + 1) i i (2 * min i lK))
                case first =>
                  as_aux_lemma =>
                    have h6 := hst2.h6
                    have y := hst2.drop.cell hlt
                    have z := hst2.drop.frozen i
                    by_cases hb : i < lD
                    · have hb' : (i : Int) < (lD : Int) := by omega
                      obtain ⟨pb, po, rfl, hpb, hc⟩ := hD (by omega)
                      have x1 : W2.cell? ⟨pb, po + i, none⟩ = some (.bool (dr i)) := by rw [hst2.low.cell (by rw [← hBs]; exact hpb)]; exact hc i hb
                      have c5 : W2.cell? ⟨B, 5, none⟩ = some (.slice (some ⟨pb, po, none⟩) lD cD) := by rw [hst2.inn.cell (by omega), HgIn.out]; rfl
                      have Hfin : Hid (St w (W2.setCell ⟨bD, i, none⟩ (.bool (dr i))) B n bB bK bD gIn (gH own reach n bB bK bD) bt' dr' lK L X (i + 1) (i + 1) i (i + 1) i i (2 * min i lK)) := by
                        have e : dr' i = dr i := by rw [Hdr.out]; simp [hb]
                        have h := hst2.bump_drop
                        rw [e] at h
                        exact h
                      clear hst2 hB hD hK hL m28 hc
                      go_wp2_with fail
                      go_region
                      go_wp2_with fail
                      go_meet
                      exact ⟨rfl, Hfin.out.drew⟩
                    · have hb' : ¬ (i : Int) < (lD : Int) := by omega
                      have Hfin : Hid (St w W2 B n bB bK bD gIn (gH own reach n bB bK bD) bt' dr' lK L X (i + 1) (i + 1) i (i + 1) i i (2 * min i lK)) := hst2.skip_drop (by rw [Hdr.out]; simp [hb])
                      clear hst2 hB hD hK hL m28
                      go_wp2_with fail
                      go_meet
                      exact ⟨rfl, Hfin.out⟩
                case rest =>
                  clear hst2
                  obtain ⟨rfl, hst⟩ := hcut
                  have h6 := hst.h6
                  have y : wc.cell? ⟨bD, i, none⟩ = some (.bool (dr' i)) := by rw [hst.drop.cell hlt, if_pos (by omega)]
                  have y0 := hst.d0.cell hlt
                  have z0 := hst.d0.frozen i
                  have c4 : wc.cell? ⟨B, 4, none⟩ = some (.slice aK lK cK) := by rw [hst.inn.cell (by omega), HgIn.out]; rfl
                  go_upto_if 131 with fail
                  have hst2 : St w (wc.setCell ⟨B + 5 + 1, i, none⟩ (.bool (dr' i))) B n bB bK bD gIn (gH own reach n bB bK bD) bt' dr' lK L X (i + 1) (i + 1) (i + 1) (i + 1) i i (2 * min i lK) := hst.bump_d0
                  generalize wc.setCell ⟨B + 5 + 1, i, none⟩ (.bool (dr' i)) = W3 at *
                  clear hst h6 y y0 z0 c4
                  have h5 := hst2.h5
                  by_cases hb : i < lK
                  ·
                    as_aux_lemma =>
                      have hb' : (i : Int) < (lK : Int) := by omega
                      have emin : min i lK = i := by omega
                      have emin1 : 2 * min (i + 1) lK = 2 * i + 2 := by omega
                      rw [emin] at hst2
                      obtain ⟨pb, po, rfl, hpb, hc⟩ := hK.2 (by omega)
                      obtain ⟨hc1, hc2⟩ := hc i hb
                      have hLi := hL i hlt hb
                      have hLi' : (L i : Int) ≤ 1024 := by omega
                      have c4 : W3.cell? ⟨B, 4, none⟩ = some (.slice (some ⟨pb, po, none⟩) lK cK) := by rw [hst2.inn.cell (by omega), HgIn.out]; rfl
                      have x1 : W3.cell? ⟨pb, po + i, none⟩ = some (.slice (ka i) (L i) (cp i)) := by rw [hst2.low.cell (by rw [← hBs]; exact hpb)]; exact hc1
                      have k28 := mk28 (L i) hLi
                      have k36 := mk36 (L i) hLi
                      have sz := hst2.size
                      have hf := fill_start hst2
                      clear hK hB hD hL m28 hc hc1 emin
                      generalize ka i = ki at *
                      go_wp2_with fail
                      generalize (W3.alloc (.cells (madeCells #[.int .i64 0] (L i)) 3)).alloc (.cells (madeCells #[.int .i64 0, .int .i64 0] (L i * 2)) 38) = W4 at *
                      clear hst2 x1 c4 k28 k36 sz h5
                      go_loopg [13] (L i) (fun g s13 wx => ∃ j, j ≤ L i ∧ g = L i - j ∧ s13 = .int .i64 (j : Nat) ∧ Fill w wx B n bB bK bD gIn (gH own reach n bB bK bD) bt' dr' lK L X i j j)
                      case atStart => exact ⟨0, by omega, rfl, rfl, hf⟩
                      case round =>
                        obtain ⟨j, hj, rfl, rfl, hf2⟩ := hrel
                        clear hf
                        by_cases hjl : j < L i
                        · have hjl' : (j : Int) < (L i : Int) := by omega
                          obtain ⟨sb, so, rfl, hsb, hx⟩ := hc2.2 (by omega)
                          have x2 : wr.cell? ⟨sb, so + j, none⟩ = some (.int .i32 (X i j)) := by rw [hf2.1.low.cell (by rw [← hBs]; exact hsb)]; exact hx j hjl
                          have hxb : -2147483648 ≤ X i j ∧ X i j ≤ 2147483647 := hc2.1 j
                          have y1 := hf2.2.1.cell hjl
                          have z1 := hf2.2.1.frozen j
                          have y2 := hf2.2.2.cell (c := j * 2) (by omega)
                          have y3 := hf2.2.2.cell (c := j * 2 + 1) (by omega)
                          have z2 := hf2.2.2.frozen (j * 2)
                          have z3 := hf2.2.2.frozen (j * 2 + 1)
                          have nsb : sb < B := by rw [← hBs]; exact hsb
                          have Hfin : Hid (Fill w (((wr.setCell ⟨B + 8 + 2 * i, j, none⟩ (.int .i64 (X i j))).setCell ⟨B + 8 + 2 * i + 1, j * 2, none⟩ (.int .i64 (X i j))).setCell ⟨B + 8 + 2 * i + 1, j * 2 + 1, none⟩ (.int .i64 (10000 * (i : Int) + (j : Int)))) B n bB bK bD gIn (gH own reach n bB bK bD) bt' dr' lK L X i (j + 1) (j + 1)) := hf2.put1.put2
                          clear hf2 hc2 hx hsb
                          go_wp2_with fail
                          go_roundg (L i - (j + 1))
                          case measure => omega
                          case rel => exact ⟨j + 1, by omega, rfl, by go_num, Hfin.out⟩
                        · have hjl' : ¬ (j : Int) < (L i : Int) := by omega
                          have ej : j = L i := by omega
                          have h5 := hf2.1.h5
                          have y1 := hf2.1.rnds.cell hlt
                          have z1 := hf2.1.rnds.frozen i
                          have y2 := hf2.1.kept.cell hlt
                          have z2 := hf2.1.kept.frozen i
                          have nbK := hf2.1.pK
                          have n1 : bK ≠ B + 5 := by omega
                          have n2 : bK ≠ B + 4 := by omega
                          have Hfin : Hid (St w ((wr.setCell ⟨B + 5, i, none⟩ (.slice (some ⟨B + 8 + 2 * i, 0, none⟩) (L i) (L i))).setCell ⟨bK, i, none⟩ (.slice (some ⟨B + 8 + 2 * i + 1, 0, none⟩) (L i) (L i))) B n bB bK bD gIn (gH own reach n bB bK bD) bt' dr' lK L X (i + 1) (i + 1) (i + 1) (i + 1) (i + 1) (i + 1) (2 * min (i + 1) lK)) := by
                            rw [emin1]
                            rw [ej] at hf2
                            exact hf2.done hb
                          clear hf2 hc2 ej emin1
                          go_wp2_with fail
                          go_roundg (n - (i + 1))
                          case measure => omega
                          case rel => exact ⟨i + 1, by omega, rfl, by go_num, Hfin.out⟩
                  · have hb' : ¬ (i : Int) < (lK : Int) := by omega
                    have c4 : W3.cell? ⟨B, 4, none⟩ = some (.slice aK lK cK) := by rw [hst2.inn.cell (by omega), HgIn.out]; rfl
                    have emin : Hid (2 * min i lK = 2 * min (i + 1) lK) := by show _ = _; omega
                    have Hfin : Hid (St w W3 B n bB bK bD gIn (gH own reach n bB bK bD) bt' dr' lK L X (i + 1) (i + 1) (i + 1) (i + 1) (i + 1) (i + 1) (2 * min (i + 1) lK)) := by
                      have h := hst2.skip_rows hb
                      rw [emin.out] at h
                      exact h
                    clear hK hB hD hL m28 hst2
                    go_wp2_with fail
                    go_roundg (n - (i + 1))
                    case measure => omega
                    case rel => exact ⟨i + 1, by omega, rfl, by go_num, Hfin.out⟩
            · have hi' : ¬ (i : Int) < (n : Int) := by omega
              obtain rfl : i = n := by omega
              clear hB hD hK hL m28
              go_wp2_with fail
              go_meet
              exact ⟨rfl, hst⟩
      case rest =>
        obtain ⟨rfl, hst⟩ := hcut
        have hbt : ∀ c, I32 (bt' c) := fun c => by
          rw [Hbt.out]
          show I32 (if c < lB then bt c else 0)
          split
          · exact hB.1 c
          · exact ⟨by omega, by omega⟩
        have hXb : ∀ i j, I32 (X i j) := hK.1
        clear hst1 hB hD hK m28 ho1 ho2
        obtain ⟨WA, rfl⟩ : ∃ W, W = wc := ⟨_, rfl⟩
        obtain ⟨p, hp⟩ : ∃ p : Nat, (pre : Int) % 4 = (p : Int) := ⟨pre % 4, by omega⟩
        have hp4 : (p : Int) < 4 := by omega
        have hpre' : (pre : Int) < 256 := by omega
        have c6 : WA.cell? ⟨B, 6, none⟩ = some (.int .u8 (pre : Nat)) := by rw [hst.inn.cell (by omega), HgIn.out]; rfl
        obtain ⟨Z, hZ⟩ : ∃ Z, WA.heap.size = Z := ⟨_, rfl⟩
        have hZ8 : B + 8 ≤ Z := by have := hst.size; omega
        have hHS0 : HS WA WA (B + 4) Z (gH own reach n bB bK bD) [] (.slice none 0 0) :=
          ⟨hst.hold.congr fun c _ => (by
            by_cases e : c = 7
            · subst e; rw [fupd_same]; rfl
            · rw [fupd_other _ _ e]), Rdy.nil _ _, by omega, fun _ _ _ => rfl, fun B' _ _ => Below.refl B' WA⟩
        go_upto_block 6 with fail
        go_cut [14, 15] from 181 to 201 (fun s14 s15 wx => s14 = .int .i64 (p : Nat) ∧ s15 = .int .i64 (p : Nat) ∧ ∃ r1 r2 r3, HS WA wx (B + 4) Z (gH own reach n bB bK bD) (pres p) (.slice r1 r2 r3))
        case first =>
          as_aux_lemma =>
            go_wp2_with fail
            rw [hp]
            go_loopg [15] p (fun g s15 wx => ∃ i r1 r2 r3, i ≤ p ∧ g = p - i ∧ s15 = .int .i64 (i : Nat) ∧ HS WA wx (B + 4) Z (gH own reach n bB bK bD) (pres i) (.slice r1 r2 r3))
            case atStart => exact ⟨0, _, _, _, by omega, rfl, rfl, hHS0⟩
            case round =>
              obtain ⟨i, r1, r2, r3, hip, rfl, rfl, hs⟩ := hrel
              clear hHS0 hst
              by_cases hlt : i < p
              · have hi' : (i : Int) < (p : Int) := by omega
                obtain ⟨s1, s2, s3, w5, ap, y7, z7, hfin⟩ := push hs (by omega) 0 (-1 - (i : Int)) (by simp [pres]; omega)
                have Hfin : Hid (HS WA (w5.setCell ⟨B + 4, 7, none⟩ (.slice s1 s2 s3)) (B + 4) Z (gH own reach n bB bK bD) (pres (i + 1)) (.slice s1 s2 s3)) := by rw [pres_succ]; exact hfin
                have c7 : wr.cell? ⟨B + 4, 7, none⟩ = some (.slice r1 r2 r3) := by rw [hs.1.cell (by omega), fupd_same]
                clear hfin hs
                go_wp2_with (at_builtin; refine wpList_append_eq rfl _ _ 32 rfl _ _ (.slice s1 s2 s3) rfl rfl ap ?_)
                go_roundg (p - (i + 1))
                case measure => omega
                case rel => exact ⟨i + 1, _, _, _, by omega, rfl, by go_num, Hfin.out⟩
              · have hi' : ¬ (i : Int) < (p : Int) := by omega
                obtain rfl : i = p := by omega
                go_wp2_with fail
                go_meet
                exact ⟨rfl, rfl, _, _, _, hs⟩
        case rest =>
          obtain ⟨rfl, rfl, r1, r2, r3, hs⟩ := hcut
          clear hHS0 c6 hp hpre'
          obtain ⟨WB, rfl⟩ : ∃ W, W = wc := ⟨_, rfl⟩
          have low := hs.2.2.2.1
          obtain ⟨q, hq⟩ : ∃ q : Nat, (qv : Int) % (n : Int) = (q : Int) := ⟨qv % n, by simp⟩
          have hqn : q < n := by
            have h1 : (qv : Int) % (n : Int) < (n : Int) := Int.emod_lt_of_pos _ (by omega)
            omega
          have hqn' : (q : Int) < (n : Int) := by omega
          have hqv' : (qv : Int) < 256 := by omega
          have hn0 : ¬ (n : Int) = 0 := by omega
          have hIn : Arr WB B 26 8 gIn := hst.inn.of_block (low B (by omega) (by omega))
          have c7 : WB.cell? ⟨B, 7, none⟩ = some (.int .u8 (qv : Nat)) := by rw [hIn.cell (by omega), HgIn.out]; rfl
          have c1 : WB.cell? ⟨B, 1, none⟩ = some (.int .i32 own) := by rw [hIn.cell (by omega), HgIn.out]; rfl
          have c2 : WB.cell? ⟨B, 2, none⟩ = some (.int .i32 reach) := by rw [hIn.cell (by omega), HgIn.out]; rfl
          have ho1 : -2147483648 ≤ own ∧ own ≤ 2147483647 := hown
          have ho2 : -2147483648 ≤ reach ∧ reach ≤ 2147483647 := hreach
          have y0 : WB.cell? ⟨B + 5 + 1 + 1, q, none⟩ = some (.int .i64 (bt' q)) := by
            have h := (hst.b0.of_block (low (B + 7) (by omega) (by omega))).cell hqn
            rw [if_pos hqn] at h
            exact h
          have hbq : -2147483648 ≤ bt' q ∧ bt' q ≤ 2147483647 := hbt q
          obtain ⟨M, HM⟩ : ∃ M, Hid (M = max own (bt' q)) := ⟨_, rfl⟩
          have hMb : -2147483648 ≤ M ∧ M ≤ 2147483647 := by rw [HM.out]; omega
          obtain ⟨m, ra, kb, hm, hra, hkb, hqu⟩ := hst.queue q hqn
          have hm1 : m ≤ 1024 := by
            rw [hm]
            split
            · exact hL q hqn (by assumption)
            · omega
          have hqZ : 0 < m → B + 8 + 2 * q + 1 < Z := fun h0 => by
            have h1 : q < lK := by
              rw [hm] at h0
              by_cases h : q < lK
              · exact h
              · rw [if_neg h] at h0; omega
            have := hst.size
            omega
          have Hm : Hid (m = if q < lK then L q else 0) := hm
          have Hkb : Hid ((if q < n ∧ q < lK then (.slice (some ⟨B + 8 + 2 * q + 1, 0, none⟩) (L q) (L q) : Value) else .slice none 0 0) = .slice kb m m) := hkb
          have Hra : Hid ((if q < n ∧ q < lK then (.slice (some ⟨B + 8 + 2 * q, 0, none⟩) (L q) (L q) : Value) else .slice none 0 0) = .slice ra m m) := hra
          clear hm hkb hra
          go_upto_if 217 with fail
          rw [hq]
          go_cut [16, 17] from 202 to 222 (fun s16 s17 wx => s16 = .int .i64 ((q : Int) + 1) ∧ s17 = .int .i64 M ∧ wx = WB)
          case first =>
            as_aux_lemma =>
              by_cases hgt : own < bt' q
              · go_wp2_with fail
                go_meet
                exact ⟨rfl, by rw [HM.out, show max own (bt' q) = bt' q by omega], rfl⟩
              · go_wp2_with fail
                go_meet
                exact ⟨rfl, by rw [HM.out, show max own (bt' q) = own by omega], rfl⟩
          case rest =>
            obtain ⟨rfl, rfl, rfl⟩ := hcut
            obtain ⟨WB, rfl⟩ : ∃ W, W = wc := ⟨_, rfl⟩
            have y5 : WB.cell? ⟨B + 5, q, none⟩ = some (.slice ra m m) := by rw [(hst.rnds.of_block (low (B + 5) (by omega) (by omega))).cell hqn, Hra.out]
            go_upto_block 8 with fail
            go_cut [17, 18] from 223 to 247 (fun s17 s18 wx => ∃ c, s17 = .int .i64 (M + reach) ∧ s18 = .int .i64 (c : Nat) ∧ Pref (X q) m (M + reach) c ∧ wx = WB)
            case first =>
              as_aux_lemma =>
                have hm1' : (m : Int) ≤ 1024 := by omega
                go_wp2_with fail
                go_loopg [18] m (fun g s18 wx => ∃ c, c ≤ m ∧ g = m - c ∧ s18 = .int .i64 (c : Nat) ∧ (∀ j, j < c → X q j ≤ M + reach) ∧ wx = WB)
                case atStart => exact ⟨0, by omega, rfl, rfl, fun j hj => by omega, rfl⟩
                case round =>
                  obtain ⟨c, hc, rfl, rfl, hall, rfl⟩ := hrel
                  by_cases hcm : c < m
                  · have hcm' : (c : Int) < (m : Int) := by omega
                    obtain ⟨rfl, _, hA, _⟩ := hqu (by omega)
                    have x1 := (hA.of_block (low (B + 8 + 2 * q) (by have := hqZ (by omega); omega) (by omega))).cell hcm
                    by_cases hx : X q c ≤ M + reach
                    · have hx' : ¬ M + reach < X q c := by omega
                      clear hqu hA
                      go_wp2_with fail
                      go_roundg (m - (c + 1))
                      case measure => omega
                      case rel =>
                        refine ⟨c + 1, by omega, rfl, by go_num, fun j hj => ?_, rfl⟩
                        by_cases e : j = c
                        · subst e; exact hx
                        · exact hall j (by omega)
                    · have hx' : M + reach < X q c := by omega
                      clear hqu hA
                      go_wp2_with fail
                      go_meet
                      exact ⟨c, rfl, rfl, ⟨hc, hall, fun _ => by omega⟩, rfl⟩
                  · have hcm' : ¬ (c : Int) < (m : Int) := by omega
                    clear hqu
                    go_wp2_with fail
                    go_meet
                    exact ⟨c, rfl, rfl, ⟨hc, hall, fun h => absurd h hcm⟩, rfl⟩
            case rest =>
              obtain ⟨c, rfl, rfl, hpref, rfl⟩ := hcut
              have hpref' : Pref (X q) m (max own (bt' q) + reach) c := by rw [← HM.out]; exact hpref
              have hrel := rel_filled hst hZ hZ8 rfl hn8 hqn hown hreach hbt hXb hs (by omega) Hm.out hm1 Hkb.out hqu hpref'
              have hcm := hpref.1
              have Hkbm : Hid (0 < m → kb = some ⟨B + 8 + 2 * q + 1, 0, none⟩) := fun h0 => (hqu h0).2.1
              clear hst hs low hqu hpref hpref' y5 y0 c1 c2 c7 hIn
              go_wp2_with fail
              refine hrel.mono ?_
              rintro e W9 ⟨rfl, rv', hF⟩
              clear hrel
              have d3 : W9.cell? ⟨B + 4, 3, none⟩ = some (.int .i64 own) := by rw [hF.hold.cell (by omega), fupd_other _ _ (by omega)]; rfl
              have d1 : W9.cell? ⟨B + 4, 1, none⟩ = some (.int .i64 reach) := by rw [hF.hold.cell (by omega), fupd_other _ _ (by omega)]; rfl
              have i1 : W9.cell? ⟨B, 1, none⟩ = some (.int .i32 own) := by rw [hF.inn.cell (by omega), HgIn.out]; rfl
              have i2 : W9.cell? ⟨B, 2, none⟩ = some (.int .i32 reach) := by rw [hF.inn.cell (by omega), HgIn.out]; rfl
              have d4 : W9.cell? ⟨B + 4, 4, none⟩ = some (.slice (some ⟨bB, 0, none⟩) n n) := by rw [hF.hold.cell (by omega), fupd_other _ _ (by omega)]; rfl
              have d5 : W9.cell? ⟨B + 4, 5, none⟩ = some (.slice (some ⟨bK, 0, none⟩) n n) := by rw [hF.hold.cell (by omega), fupd_other _ _ (by omega)]; rfl
              have d6 : W9.cell? ⟨B + 4, 6, none⟩ = some (.slice (some ⟨bD, 0, none⟩) n n) := by rw [hF.hold.cell (by omega), fupd_other _ _ (by omega)]; rfl
              have hkbm : 0 < m → kb = some ⟨B + 8 + 2 * q + 1, 0, none⟩ := Hkbm.out
              have hqueue := hF.queue Hm.out hcm hkbm
              go_wp2_with fail
              go_quiet (fail)
              go_upto_block 10 with fail
              go_cut [19] from 251 to 296 (fun s19 wx => ∃ d, wx = W9.drewN d)
              case first =>
                as_aux_lemma =>
                  go_wp2_with fail
                  go_loopg [19] n (fun g s19 wr => ∃ i d, i ≤ n ∧ g = n - i ∧ s19 = .int .i64 (i : Nat) ∧ wr = W9.drewN d)
                  case atStart => exact ⟨0, nq, by omega, rfl, rfl, rfl⟩
                  case round =>
                    obtain ⟨i, d, hi, rfl, rfl, rfl⟩ := hrel
                    by_cases hlt : i < n
                    · have hi' : (i : Int) < (n : Int) := by omega
                      have b1 := hF.beat.cell hlt
                      have b2 : W9.cell? ⟨B + 5 + 1 + 1, i, none⟩ = some (.int .i64 (bt' i)) := hF.b0.cell hlt
                      have b3 : W9.cell? ⟨B + 5 + 1, i, none⟩ = some (.bool (dr' i)) := hF.d0.cell hlt
                      go_wp2_with fail
                      go_quiet (fail)
                      go_upto_if 318 with fail
                      go_cut [20, 21] from 294 to 330 (fun s20 s21 wx => s20 = .bool (if i = q ∧ 0 < c then false else dr' i) ∧ s21 = .int .i64 ((if i = q then c else 0 : Nat) : Int) ∧ ∃ d, wx = W9.drewN d)
                      case first =>
                        as_aux_lemma =>
                          clear hqueue
                          by_cases e : i = q
                          · subst e
                            by_cases hc0 : 0 < c
                            · have hc0' : (0 : Int) < (c : Int) := by omega
                              go_wp2_with fail
                              go_meet
                              exact ⟨by simp [hc0], by simp, _, rfl⟩
                            · have hc0' : ¬ (0 : Int) < (c : Int) := by omega
                              go_wp2_with fail
                              go_meet
                              exact ⟨by simp [hc0], by simp, _, rfl⟩
                          · have e' : ((i : Int) == (q : Int)) = false := by simp; omega
                            go_wp2_with fail
                            go_meet
                            exact ⟨by simp [e], by simp [e], _, rfl⟩
                      case rest =>
                        obtain ⟨rfl, rfl, d2, rfl⟩ := hcut
                        obtain ⟨l, ka', kcap, ra', hl, k1, k2, haft⟩ := hqueue i hlt
                        have b4 : W9.cell? ⟨bD, i, none⟩ = some (.bool (if i = q ∧ 0 < c then false else dr' i)) := hF.drop.cell hlt
                        have hl1 : l ≤ 1024 := by
                          rw [hl]
                          split
                          · exact hL i hlt (by assumption)
                          · omega
                        have hstl : (if i = q then c else 0) ≤ l := by
                          by_cases e : i = q
                          · subst e; rw [if_pos rfl, hl, ← Hm.out]; exact hcm
                          · rw [if_neg e]; omega
                        clear hqueue hl b1 b2 b3 hF i1 i2 d1 d3 d4
                        generalize (if i = q ∧ 0 < c then false else dr' i) = wd at *
                        generalize (if i = q then c else 0) = st at *
                        obtain ⟨k, hk⟩ : ∃ k, l - st = k := ⟨_, rfl⟩
                        have hk' : (l : Int) - (st : Int) = (k : Int) := by omega
                        have hl1' : (l : Int) ≤ 1024 := by omega
                        have hk1' : (k : Int) ≤ 1024 := by omega
                        rw [hk] at k1
                        unfold After at haft
                        rw [hk] at haft
                        have hlk : st + k = l := by omega
                        have Hlk : Hid (st + k = l) := hlk
                        clear hk hlk hstl hl1
                        have hst' : (st : Int) ≤ 1024 := by have := Hlk.out; omega
                        go_wp2_with fail
                        go_quiet (fail)
                        go_wp2_with fail
                        go_loopg [22] k (fun g s22 wr => ∃ j d, j ≤ k ∧ g = k - j ∧ s22 = .int .i64 (j : Nat) ∧ wr = W9.drewN d)
                        case atStart => exact ⟨0, _, by omega, rfl, rfl, World.drewN_drewN ..⟩
                        case round =>
                          obtain ⟨j, d3, hj, rfl, rfl, rfl⟩ := hrel
                          by_cases hjk : j < k
                          · have hj' : (j : Int) < (k : Int) := by omega
                            obtain ⟨⟨rfl, hx⟩, ⟨rfl, hy⟩⟩ := haft.imp (fun h => h (by have := Hlk.out; omega)) (fun h => h (by omega))
                            obtain ⟨t, Ht⟩ : ∃ t, Hid (t = st + j) := ⟨_, rfl⟩
                            have ht' : (st : Int) + (j : Int) = (t : Int) := by have := Ht.out; omega
                            have htl : (t : Int) < (l : Int) := by have := Ht.out; have := Hlk.out; omega
                            have x1 := hx t (by omega)
                            obtain ⟨x2, x3⟩ := hy j hjk
                            rw [← Ht.out] at x2
                            clear hx hy haft
                            go_wp2_with fail
                            go_quiet (fail)
                            go_wp2_with fail
                            go_roundg (k - (j + 1))
                            case measure => omega
                            case rel => exact ⟨j + 1, _, by omega, rfl, by go_num, rfl⟩
                          · have hj' : ¬ (j : Int) < (k : Int) := by omega
                            clear haft
                            go_wp2_with fail
                            go_roundg (n - (i + 1))
                            case measure => omega
                            case rel => exact ⟨i + 1, _, by omega, rfl, by go_num, rfl⟩
                    · have hi' : ¬ (i : Int) < (n : Int) := by omega
                      go_wp2_with fail
                      go_meet
                      exact ⟨_, rfl⟩
              case rest =>
                obtain ⟨d, rfl⟩ := hcut
                as_aux_lemma =>
                  obtain ⟨ra, rc, rfl, hrdy⟩ := hF.ready
                  have hlow := hF.low
                  have d7 : W9.cell? ⟨B + 4, 7, none⟩ = some (.slice ra (p + c) rc) := by rw [hF.hold.cell (by omega), fupd_same]
                  have hc1' : (c : Int) ≤ 1024 := by omega
                  have hlen : ((p + c : Nat) : Int) = (p : Int) + (c : Int) := by omega
                  have Hend : Hid (Below B w W9) := hlow
                  clear hF hqueue hlow hL d1 d3 d4 d5 d6 i1 i2
                  go_wp2_with fail
                  go_loopg [23] p (fun g s23 wr => ∃ i, i ≤ p ∧ g = p - i ∧ s23 = .int .i64 (i : Nat) ∧ wr = W9.drewN d)
                  case atStart => exact ⟨0, by omega, rfl, rfl, rfl⟩
                  case round =>
                    obtain ⟨i, hi, rfl, rfl, rfl⟩ := hrel
                    by_cases hlt : i < p
                    · have hi' : (i : Int) < (p : Int) := by omega
                      have hi2 : (i : Int) < (p : Int) + (c : Int) := by omega
                      obtain ⟨g, rfl, hx, _⟩ := hrdy (by omega)
                      obtain ⟨x1, x2⟩ := hx i hlt
                      clear hx hrdy
                      go_wp2_with fail
                      go_roundg (p - (i + 1))
                      case measure => omega
                      case rel => exact ⟨i + 1, by omega, rfl, by go_num, rfl⟩
                    · have hi' : ¬ (i : Int) < (p : Int) := by omega
                      go_wp2_with fail
                      go_loopg [24] c (fun g s24 wr => ∃ j, j ≤ c ∧ g = c - j ∧ s24 = .int .i64 (j : Nat) ∧ wr = W9.drewN d)
                      case atStart => exact ⟨0, by omega, rfl, rfl, rfl⟩
                      case round =>
                        obtain ⟨j, hj, rfl, rfl, rfl⟩ := hrel
                        by_cases hlt2 : j < c
                        · have hj' : (j : Int) < (c : Int) := by omega
                          obtain ⟨g, rfl, _, hx⟩ := hrdy (by omega)
                          obtain ⟨x1, x2⟩ := hx j hlt2
                          obtain ⟨t, Ht⟩ : ∃ t, Hid (t = p + j) := ⟨_, rfl⟩
                          rw [← Ht.out] at x1 x2
                          have ht' : (p : Int) + (j : Int) = (t : Int) := by have := Ht.out; omega
                          have ht2 : (t : Int) < (p : Int) + (c : Int) := by omega
                          clear hx hrdy
                          go_wp2_with fail
                          go_roundg (c - (j + 1))
                          case measure => omega
                          case rel => exact ⟨j + 1, by omega, rfl, by go_num, rfl⟩
                        · have hj' : ¬ (j : Int) < (c : Int) := by omega
                          clear hrdy
                          go_wp2_with fail
                          go_ret
                          exact ⟨rfl, below_drewN Hend.out d⟩
end Go.Proofs.Ybulkbowq
