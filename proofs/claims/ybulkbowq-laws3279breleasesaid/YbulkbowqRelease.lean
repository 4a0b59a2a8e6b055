/-
  hold.release by its contract.
-/
import Derived.Test.YbulkbowqLimit
import Derived.Test.YbulkbowqReady
namespace Go.Proofs.Ybulkbowq
open Go.RowKit

theorem below_drewN {B : Nat} {a w : World} (h : Below B a w) (n : Nat) : Below B a (w.drewN n) := by
  induction n with
  | zero => exact h
  | succ n ih => exact ih.drew

/-- The messages that go through: the first c of the row, tagged with q + 1. -/
def news (q : Nat) (k : Nat → Int) (c : Nat) : List (Int × Int) := (List.range c).map fun j => ((q : Int) + 1, k (2 * j + 1))
theorem news_succ (q : Nat) (k : Nat → Int) (c : Nat) : news q k (c + 1) = news q k c ++ [((q : Int) + 1, k (2 * c + 1))] := by simp [news, List.range_succ]

theorem HS.drewN {w0 wr : World} {H base : Nat} {g : Nat → Value} {ps : List (Int × Int)} {rv : Value} (h : HS w0 wr H base g ps rv) (n : Nat) : HS w0 (wr.drewN n) H base g ps rv :=
  ⟨h.1.of_block rfl, h.2.1.of_heap fun _ _ => rfl, h.2.2.1, fun x hx hne => h.2.2.2.1 x hx hne, fun B h1 h2 => (h.2.2.2.2 B h1 h2).trans ((below_drewN (Below.refl B wr) n))⟩

/-- What release leaves. -/
def RelOut (w : World) (H base bK bD n q b m c : Nat) (a : Option Addr) (g : Nat → Value) (ps : List (Int × Int)) (kv : Nat → Value) (dr : Nat → Bool) (k : Nat → Int) (w' : World) : Prop :=
  ∃ rv, Arr w' H 34 8 (fupd g 7 rv) ∧ Rdy w' base rv (ps ++ news q k c) ∧ base ≤ w'.heap.size ∧ Arr w' bK 36 n (if c = 0 then kv else fupd kv q (.slice a (m - c) m)) ∧
    Arr w' bD 4 n (fun i => .bool (if c = 0 then dr i else fupd dr q false i)) ∧ (0 < m → Arr w' b 38 (2 * m) (fun j => .int .i64 (if j < 2 * (m - c) then k (2 * c + j) else 0))) ∧
    (∀ x, x < base → x ≠ H → x ≠ bK → x ≠ bD → (0 < m → x ≠ b) → w'.heap[x]? = w.heap[x]?) ∧ ∀ B, B ≤ H → B ≤ base → B ≤ bK → B ≤ bD → B ≤ b → Below B w w'

theorem rel_none {w W : World} {H base bK bD n q b m : Nat} {a : Option Addr} {g : Nat → Value} {ps : List (Int × Int)} {rv : Value} {kv : Nat → Value} {dr : Nat → Bool} {k : Nat → Int}
    (h : HS w W H base g (ps ++ news q k 0) rv) (hK : Arr w bK 36 n kv) (hD : Arr w bD 4 n (fun i => .bool (dr i))) (dHK : H ≠ bK) (dHD : H ≠ bD) (lK : bK < base) (lD : bD < base) (lb : b < base)
    (hrow : 0 < m → Arr w b 38 (2 * m) (fun j => .int .i64 (k j))) (dHb : H ≠ b) : RelOut w H base bK bD n q b m 0 a g ps kv dr k W := by
  obtain ⟨h1, h2, h3, h4, h5⟩ := h
  refine ⟨rv, h1, h2, h3, ?_, ?_, fun hm => ?_, fun x hx hne _ _ _ => h4 x hx hne, fun B b1 b2 _ _ _ => h5 B b1 b2⟩
  · rw [if_pos rfl]
    exact hK.of_block (h4 bK lK (Ne.symm dHK))
  · simp only [if_true]
    exact hD.of_block (h4 bD lD (Ne.symm dHD))
  · refine ((hrow hm).of_block (h4 b lb (Ne.symm dHb))).congr fun j hj => ?_
    rw [Nat.sub_zero, if_pos hj, Nat.mul_zero, Nat.zero_add]

/-- Delete's contract behind the loop, with what the next statements read. -/
theorem relDel {w W : World} {H base bK bD n q b m c : Nat} {g : Nat → Value} {ps : List (Int × Int)} {rv : Value} {kv : Nat → Value} {dr : Nat → Bool} {k : Nat → Int}
    (h : HS w W H base g ps rv) (g5 : g 5 = .slice (some ⟨bK, 0, none⟩) n n) (g6 : g 6 = .slice (some ⟨bD, 0, none⟩) n n) (hK : Arr w bK 36 n kv) (hD : Arr w bD 4 n (fun i => .bool (dr i))) (hA : Arr w b 38 (2 * m) (fun j => .int .i64 (k j)))
    (hc0 : 0 < c) (hcm : c ≤ m) (hm : m ≤ 1024) (_lH : H < base) (lK : bK < base) (lD : bD < base) (lb : b < base) (dHK : H ≠ bK) (dHD : H ≠ bD) (dHb : H ≠ b) (dKb : bK ≠ b) (dDb : bD ≠ b) (hq : q < n) :
    (Calls Yba.prog 6 #[.slice (some ⟨b, 0, none⟩) m m, .int .i64 0, .int .i64 (c : Nat)] W.drew fun e w' => e = .returned (.slice (some ⟨b, 0, none⟩) (m - c) m) ∧ DelOut W.drew b m c k w' ∧
      w'.cell? ⟨H, 5, none⟩ = some (.slice (some ⟨bK, 0, none⟩) n n) ∧ w'.cell? ⟨H, 6, none⟩ = some (.slice (some ⟨bD, 0, none⟩) n n) ∧ w'.cell? ⟨bK, q, none⟩ = some (kv q) ∧ w'.frozen? ⟨bK, q, none⟩ = false ∧
      w'.cell? ⟨bD, q, none⟩ = some (.bool (dr q)) ∧ w'.frozen? ⟨bD, q, none⟩ = false) ∧ W.cell? ⟨H, 5, none⟩ = some (.slice (some ⟨bK, 0, none⟩) n n) ∧ W.cell? ⟨H, 6, none⟩ = some (.slice (some ⟨bD, 0, none⟩) n n) := by
  obtain ⟨h1, h2, h3, h4, h5⟩ := h
  refine ⟨(delete_calls W.drew b m c k ((hA.of_block (h4 b lb (Ne.symm dHb))).of_block rfl) hc0 hcm hm).mono fun e w' ⟨he, hd⟩ => ?_, ?_, ?_⟩
  · have kH : Arr w' H 34 8 (fupd g 7 rv) := h1.of_block (hd.2.1 H dHb)
    have kK : Arr w' bK 36 n kv := hK.of_block ((hd.2.1 bK dKb).trans (h4 bK lK (Ne.symm dHK)))
    have kD : Arr w' bD 4 n (fun i => .bool (dr i)) := hD.of_block ((hd.2.1 bD dDb).trans (h4 bD lD (Ne.symm dHD)))
    refine ⟨he, hd, ?_, ?_, kK.cell hq, kK.frozen q, kD.cell hq, kD.frozen q⟩
    · rw [kH.cell (by omega), fupd_other _ _ (by omega), g5]
    · rw [kH.cell (by omega), fupd_other _ _ (by omega), g6]
  · rw [h1.cell (by omega), fupd_other _ _ (by omega), g5]
  · rw [h1.cell (by omega), fupd_other _ _ (by omega), g6]

theorem rel_some {w W w2 : World} {H base bK bD n q b m c : Nat} {g : Nat → Value} {ps : List (Int × Int)} {rv : Value} {kv : Nat → Value} {dr : Nat → Bool} {k : Nat → Int}
    (h : HS w W H base g (ps ++ news q k c) rv) (hK : Arr w bK 36 n kv) (hD : Arr w bD 4 n (fun i => .bool (dr i))) (hc0 : 0 < c) (lK : bK < base) (lD : bD < base) (lb : b < base) (dHK : H ≠ bK) (dHD : H ≠ bD) (dHb : H ≠ b) (dKD : bK ≠ bD) (dKb : bK ≠ b) (dDb : bD ≠ b)
    (hcm : c ≤ m) (hd : DelOut W.drew b m c k w2) :
    RelOut w H base bK bD n q b m c (some ⟨b, 0, none⟩) g ps kv dr k ((w2.setCell ⟨bK, q, none⟩ (.slice (some ⟨b, 0, none⟩) (m - c) m)).setCell ⟨bD, q, none⟩ (.bool false)) := by
  obtain ⟨h1, h2, h3, h4, h5⟩ := h
  have hne : c ≠ 0 := by omega
  have low : ∀ x, x ≠ b → x ≠ bK → x ≠ bD → ((w2.setCell ⟨bK, q, none⟩ (.slice (some ⟨b, 0, none⟩) (m - c) m)).setCell ⟨bD, q, none⟩ (.bool false)).heap[x]? = W.heap[x]? := fun x e1 e2 e3 => by
    rw [Below.heap_setCell _ _ _ _ (by simpa using e3), Below.heap_setCell _ _ _ _ (by simpa using e2), hd.2.1 x e1]
    rfl
  have kK : Arr w2 bK 36 n kv := hK.of_block ((hd.2.1 bK dKb).trans (h4 bK lK (Ne.symm dHK)))
  have kD : Arr w2 bD 4 n (fun i => .bool (dr i)) := hD.of_block ((hd.2.1 bD dDb).trans (h4 bD lD (Ne.symm dHD)))
  refine ⟨rv, h1.of_block (low H dHb dHK dHD), h2.of_heap fun x hx => ?_, ?_, ?_, ?_, fun hm => ?_, fun x hx e1 e2 e3 e4 => (low x (e4 (by omega)) e2 e3).trans (h4 x hx e1), fun B b1 b2 b3 b4 b5 => ?_⟩
  · have := World.ownsRow.lt h2 x hx
    exact low x (by omega) (by omega) (by omega)
  · simp only [World.setCell, Array.size_modify]
    rw [hd.2.2.1]
    exact h3
  · rw [if_neg hne]
    exact (kK.set q _).set_other (by simpa using dKD) _
  · simp only [if_neg hne]
    refine ((kD.set_other (p := ⟨bK, q, none⟩) (by simpa using Ne.symm dKD) _).set q _).congr fun i hi => ?_
    by_cases e : i = q
    · subst e; rw [fupd_same, fupd_same]
    · rw [fupd_other _ _ e, fupd_other _ _ e]
  · exact (hd.1.set_other (by simpa using Ne.symm dKb) _).set_other (by simpa using Ne.symm dDb) _
  · exact (((h5 B b1 b2).drew.trans (hd.2.2.2 B b5)).setCell b3 _).setCell b4 _

set_option maxRecDepth 100000 in
set_option maxHeartbeats 800000 in
theorem release_calls (w : World) (H base bB bK bD n q b m c : Nat) (a : Option Addr) (g : Nat → Value) (ps : List (Int × Int)) (rv : Value) (own reach : Int) (bt : Nat → Int) (kv : Nat → Value) (dr : Nat → Bool) (k : Nat → Int)
    (hn : n ≤ 8) (hq : q < n) (ho : I32 own) (hr : I32 reach) (hb : ∀ i, I32 (bt i)) (hHS : HS w w H base g ps rv)
    (g1 : g 1 = .int .i64 reach) (g3 : g 3 = .int .i64 own) (g4 : g 4 = .slice (some ⟨bB, 0, none⟩) n n) (g5 : g 5 = .slice (some ⟨bK, 0, none⟩) n n) (g6 : g 6 = .slice (some ⟨bD, 0, none⟩) n n)
    (hBt : Arr w bB 3 n (fun i => .int .i64 (bt i))) (hK : Arr w bK 36 n kv) (hD : Arr w bD 4 n (fun i => .bool (dr i))) (hkq : kv q = .slice a m m) (hm : m ≤ 1024)
    (hrow : 0 < m → a = some ⟨b, 0, none⟩ ∧ Arr w b 38 (2 * m) (fun j => .int .i64 (k j))) (hk : ∀ j, j < 2 * m → -9000000000 ≤ k j ∧ k j ≤ 9000000000)
    (lH : H < base) (lB : bB < base) (lK : bK < base) (lD : bD < base) (lb : b < base) (dHB : H ≠ bB) (dHK : H ≠ bK) (dHD : H ≠ bD) (dHb : H ≠ b) (dBK : bB ≠ bK) (dBD : bB ≠ bD) (dBb : bB ≠ b) (dKD : bK ≠ bD) (dKb : bK ≠ b) (dDb : bD ≠ b)
    (hps : ps.length ≤ 16) (hcm : c ≤ m) (hc1 : ∀ j, j < c → k (2 * j) ≤ max own (bt q) + reach) (hc2 : c < m → ¬ k (2 * c) ≤ max own (bt q) + reach) :
    Calls Yba.prog 4 #[.pointer (some ⟨H, 0, none⟩), .int .i64 ((q : Int) + 1)] w fun e w' => e = .returned (.tuple #[]) ∧ RelOut w H base bK bD n q b m c a g ps kv dr k w' := by
  have hq' : (q : Int) < (n : Int) := by omega
  have hn' : (n : Int) ≤ 8 := by omega
  have c5 : w.cell? ⟨H, 5, none⟩ = some (.slice (some ⟨bK, 0, none⟩) n n) := by rw [hHS.1.cell (by omega), fupd_other _ _ (by omega), g5]
  have ck := hK.cell hq
  rw [hkq] at ck
  obtain ⟨av, nv, rfl⟩ := hHS.2.1.shape
  have hlim : ∀ W : World, (∀ x, x < base → x ≠ H → W.heap[x]? = w.heap[x]?) → (∃ r, Arr W H 34 8 (fupd g 7 r)) →
      Calls Yba.prog 5 #[.pointer (some ⟨H, 0, none⟩), .int .i64 ((q : Int) + 1)] W fun e w' => e = .returned (.int .i64 (max own (bt q) + reach)) ∧ ∃ d, w' = W.drewN d := by
    intro W hW ⟨r, hr'⟩
    refine limit_calls W H bB n own reach bt ho hr hb ?_ ?_ ?_ (hBt.of_block (hW bB lB (Ne.symm dHB))) q hq hn
    · rw [hr'.cell (by omega), fupd_other _ _ (by omega), g1]
    · rw [hr'.cell (by omega), fupd_other _ _ (by omega), g3]
    · rw [hr'.cell (by omega), fupd_other _ _ (by omega), g4]
  have hlb : -9000000000 ≤ max own (bt q) + reach ∧ max own (bt q) + reach ≤ 9000000000 := by have := hb q; unfold I32 at *; omega
  generalize max own (bt q) + reach = lim at *
  clear hBt hb ho hr g1 g3 g4
  go_enter Yba.func4, Yba.ntmps4
  go_wp2_with fail
  go_loopw [5] (fun iv wr => ∃ j r1 r2 r3, j ≤ c ∧ iv = .int .i64 (j : Nat) ∧ HS w wr H base g (ps ++ news q k j) (.slice r1 r2 r3)) (fun iv _ => c - (intOf iv).toNat)
  case atStart => exact ⟨0, _, _, _, by omega, rfl, by simpa [news] using hHS⟩
  case round =>
    obtain ⟨j, r1, r2, r3, hjc, rfl, hst⟩ := hrel
    have limC : ∀ d, Calls Yba.prog 5 #[.pointer (some ⟨H, 0, none⟩), .int .i64 ((q : Int) + 1)] (wr.drewN d) fun e w' => e = .returned (.int .i64 lim) ∧ ∃ m, w' = (wr.drewN d).drewN m :=
      fun d => hlim (wr.drewN d) (hst.drewN d).2.2.2.1 ⟨_, (hst.drewN d).1⟩
    by_cases hlt : j < c
    · obtain ⟨rfl, hA⟩ := hrow (by omega)
      have hAr := hA.of_block (hst.2.2.2.1 b lb (Ne.symm dHb))
      have i1 : (j : Int) < (m : Int) := by omega
      have x1 := hAr.cell (c := 2 * j) (by omega)
      have x2 := hAr.cell (c := 2 * j + 1) (by omega)
      have e1 := hc1 j hlt
      rw [Nat.mul_comm 2 j] at x1 x2 e1
      clear hlim hcm hc1 hc2 hk hrow hK hD hkq ck g5 g6 c5 hHS hA
      go_wp2_with fail
      go_quiet (exact Calls.quiet_of (limC _))
      go_wp2_with fail
      have hst1 := hst.drewN nq
      have x3 : (wr.drewN nq).cell? ⟨b, j * 2 + 1, none⟩ = some (.int .i64 (k (j * 2 + 1))) := x2
      clear hst limC hAr x1 x2
      generalize wr.drewN nq = W at *
      obtain ⟨s1, s2, s3, w5, ap, y7, z7, hfin⟩ := push hst1.drew lH ((q : Int) + 1) (k (2 * j + 1)) (by simp [news]; omega)
      have Hfin : Hid (HS w (w5.setCell ⟨H, 7, none⟩ (.slice s1 s2 s3)) H base g (ps ++ news q k (j + 1)) (.slice s1 s2 s3)) := by rw [news_succ, ← List.append_assoc]; exact hfin
      rw [Nat.mul_comm 2 j] at ap
      have c7 : W.cell? ⟨H, 7, none⟩ = some (.slice r1 r2 r3) := by rw [hst1.1.cell (by omega), fupd_same]
      have n1 : H ≠ W.heap.size := by have := hst1.1.lt; omega
      have n2 : b ≠ W.heap.size := by have := hst1.2.2.1; omega
      have ap' : (Builtin.append_ #[32, 32] 32 #[.slice r1 r2 r3, .slice (some ⟨W.heap.size, 0, none⟩) 1 1]).run Yba.prog (W.alloc (.cells #[.int .i64 ((q : Int) + 1), .int .i64 (k (j * 2 + 1))] 40)).drew = .ok (.slice s1 s2 s3) w5 := ap
      have c7a : (W.alloc (.cells #[.int .i64 ((q : Int) + 1), .int .i64 (k (j * 2 + 1))] 40)).cell? ⟨H, 7, none⟩ = some (.slice r1 r2 r3) := by
        rw [← c7]
        exact World.cell?_of_block (Below.heap_alloc _ _ _ (by have := hst1.1.lt; exact this))
      clear hfin hst1 ap
      go_region_law (refine step_append_eq rfl _ _ 32 (by rfl) _ _ (.slice s1 s2 s3) (by rfl) (by rfl) ap' ?_)
      all_goals (go_wp2_with fail; exact ⟨⟨j + 1, s1, s2, s3, by omega, by go_num, Hfin.out⟩, by simp [intOf]; omega⟩)
    · obtain rfl : j = c := by omega
      by_cases hjm : j < m
      · obtain ⟨rfl, hA⟩ := hrow (by omega)
        have hAr := hA.of_block (hst.2.2.2.1 b lb (Ne.symm dHb))
        have i1 : (j : Int) < (m : Int) := by omega
        have x1 := hAr.cell (c := 2 * j) (by omega)
        have e1 := hc2 hjm
        rw [Nat.mul_comm 2 j] at x1 e1
        have e2 : decide (k (j * 2) ≤ lim) = false := decide_eq_false (by omega)
        clear hlim hc1 hc2 hk hAr
        go_wp2_with fail
        go_quiet (exact Calls.quiet_of (limC _))
        have hst1 := hst.drewN nq
        clear hst limC x1
        generalize wr.drewN nq = W at *
        by_cases h0 : j = 0
        · subst h0
          go_wp2_with fail
          go_end0
          exact ⟨rfl, rel_none hst1 hK hD dHK dHD lK lD lb (fun h => (hrow h).2) dHb⟩
        · have h0' : (0 : Int) < (j : Int) := by omega
          obtain ⟨hdel, c5, c6⟩ := relDel hst1 g5 g6 hK hD hA (by omega) hcm hm lH lK lD lb dHK dHD dHb dKb dDb hq
          have Hrel : Hid (∀ w2, DelOut W.drew b m j k w2 → RelOut w H base bK bD n q b m j (some ⟨b, 0, none⟩) g ps kv dr k ((w2.setCell ⟨bK, q, none⟩ (.slice (some ⟨b, 0, none⟩) (m - j) m)).setCell ⟨bD, q, none⟩ (.bool false))) :=
            fun w2 hd => rel_some hst1 hK hD (by omega) lK lD lb dHK dHD dHb dKD dKb dDb hcm hd
          clear hst1
          go_wp2_with fail
          clear hrow hD hK hkq ck g5 g6 hA
          have hq4 : IntKind.i64.wrap (q : Int) = (q : Int) := by rw [IntKind.wrap_i64]; omega
          go_region_with (go_at_call 6; refine hdel.mono ?_; rintro e w2 ⟨rfl, hd, y5, y6, yk, zk, yd, zd⟩)
          all_goals (go_wp2_with fail; go_end0; exact ⟨rfl, Hrel.out _ hd⟩)
      · obtain rfl : j = m := by omega
        have i1 : decide ((j : Int) < (j : Int)) = false := by simp
        clear hlim hc1 hc2 hk limC
        go_wp2_with fail
        go_quiet (fail)
        have hst1 := hst.drewN nq
        clear hst
        generalize wr.drewN nq = W at *
        by_cases h0 : j = 0
        · subst h0
          go_wp2_with fail
          go_end0
          exact ⟨rfl, rel_none hst1 hK hD dHK dHD lK lD lb (fun h => (hrow h).2) dHb⟩
        · have h0' : (0 : Int) < (j : Int) := by omega
          obtain ⟨rfl, hA⟩ := hrow (by omega)
          obtain ⟨hdel, c5, c6⟩ := relDel hst1 g5 g6 hK hD hA (by omega) hcm hm lH lK lD lb dHK dHD dHb dKb dDb hq
          have Hrel : Hid (∀ w2, DelOut W.drew b j j k w2 → RelOut w H base bK bD n q b j j (some ⟨b, 0, none⟩) g ps kv dr k ((w2.setCell ⟨bK, q, none⟩ (.slice (some ⟨b, 0, none⟩) 0 j)).setCell ⟨bD, q, none⟩ (.bool false))) :=
            fun w2 hd => by have h := rel_some hst1 hK hD (by omega) lK lD lb dHK dHD dHb dKD dKb dDb hcm hd; rw [Nat.sub_self] at h; exact h
          rw [Nat.sub_self] at hdel
          clear hst1
          go_wp2_with fail
          clear hrow hD hK hkq ck g5 g6 hA
          have hq4 : IntKind.i64.wrap (q : Int) = (q : Int) := by rw [IntKind.wrap_i64]; omega
          go_region_with (go_at_call 6; refine hdel.mono ?_; rintro e w2 ⟨rfl, hd, y5, y6, yk, zk, yd, zd⟩)
          all_goals (go_wp2_with fail; go_end0; exact ⟨rfl, Hrel.out _ hd⟩)
end Go.Proofs.Ybulkbowq
