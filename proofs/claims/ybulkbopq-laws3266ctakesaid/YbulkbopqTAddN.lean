/-
  rangeSet.add at a key that does not stand in the set.
-/
import Derived.Test.YbulkbopqTAddT
namespace Go.Proofs.Ybulkbopq
open Go.RowKit Go.Sort

theorem Jn2.start {w W3 : World} {sb so k s : Nat} {v : Value} (hF : Fr w W3 w.heap.size sb so k v) :
    Fr w (W3.alloc (.cells #[.bool false, .int .i64 (k : Nat), .slice none 0 0, .bool false, .int .i64 (k : Nat), .slice none 0 0, .bool false, .bool false, .bool false, .bool false, .int .u64 (s : Nat)] 138)) w.heap.size sb so k v ∧
    Pt (W3.alloc (.cells #[.bool false, .int .i64 (k : Nat), .slice none 0 0, .bool false, .int .i64 (k : Nat), .slice none 0 0, .bool false, .bool false, .bool false, .bool false, .int .u64 (s : Nat)] 138)) W3.heap.size 0 k ∧
    (W3.alloc (.cells #[.bool false, .int .i64 (k : Nat), .slice none 0 0, .bool false, .int .i64 (k : Nat), .slice none 0 0, .bool false, .bool false, .bool false, .bool false, .int .u64 (s : Nat)] 138)).cell? ⟨W3.heap.size, 10, none⟩ = some (.int .u64 (s : Nat)) ∧ w.heap.size + 2 ≤ W3.heap.size := by
  have gr := (Gr.refl W3).alloc (.cells #[.bool false, .int .i64 (k : Nat), .slice none 0 0, .bool false, .int .i64 (k : Nat), .slice none 0 0, .bool false, .bool false, .bool false, .bool false, .int .u64 (s : Nat)] 138)
  have hb := heap_alloc_new W3 (.cells #[.bool false, .int .i64 (k : Nat), .slice none 0 0, .bool false, .int .i64 (k : Nat), .slice none 0 0, .bool false, .bool false, .bool false, .bool false, .int .u64 (s : Nat)] 138)
  have l : w.heap.size + 1 < W3.heap.size := World.block_lt_of_cell? _ _ hF.res.1
  refine ⟨hF.to gr, ?_, by simp only [World.cell?, hb]; rfl, by omega⟩
  refine ⟨?_, ?_, ?_, ?_, ?_, ?_, ?_, ?_, ?_, ?_⟩ <;> (simp only [World.cell?, hb]; rfl)

theorem row_of_block {w W : World} {g n cap : Nat} {L : List Value} (h : w.ownsRow 0 138 11 (.slice (some ⟨g, 0, none⟩) n cap) n L) (hb : W.heap[g]? = w.heap[g]?) : W.ownsRow 0 138 11 (.slice (some ⟨g, 0, none⟩) n cap) n L := by
  refine ⟨h.1, ?_⟩
  rcases h.2 with ⟨h2, _⟩ | ⟨g', cap', cur, e, hb', hg, r⟩
  · cases h2
  · simp only [Value.slice.injEq, Option.some.injEq, Addr.mk.injEq, and_true, true_and] at e
    obtain ⟨rfl, rfl⟩ := e
    exact .inr ⟨g, cap, cur, rfl, hb', by rw [hb]; exact hg, r⟩

/-- The set's row with a zero element behind it. -/
theorem app_zero {w W4 : World} {sb so k s b7 n cap : Nat} {a : Option Addr} {xs : List (Nat × Nat)} (hF : Fr w W4 w.heap.size sb so k (.slice a n cap)) (hs : W4.cell? ⟨b7, 10, none⟩ = some (.int .u64 (s : Nat))) (le : w.heap.size + 2 ≤ b7)
    (hown : Own w (.slice a n cap) xs) (hne : (Value.slice a n cap).ownBlock ≠ some sb) (sl : sb < w.heap.size) (hn0 : xs.length = n) (hn : n ≤ 256) :
    ∃ W5 g1 cap1, (Builtin.append_ #[91, 91] 91 #[.slice a n cap, .slice (some ⟨W4.heap.size, 0, none⟩) 1 1]).run Yba.prog (W4.alloc (.cells #[.bool false, .int .i64 0, .slice none 0 0, .bool false, .int .i64 0, .slice none 0 0, .bool false, .bool false, .bool false, .bool false, .int .u64 0] 138)) = .ok (.slice (some ⟨g1, 0, none⟩) (n + 1) cap1) W5 ∧
      Hid (W5.ownsRow 0 138 11 (.slice (some ⟨g1, 0, none⟩) (n + 1) cap1) (n + 1) (flat xs ++ pc 0 0) ∧ n + 1 ≤ cap1 ∧ (∀ x, x < W4.heap.size → x ≠ g1 → (Value.slice a n cap).ownBlock ≠ some x → W5.heap[x]? = W4.heap[x]?) ∧ W4.heap.size ≤ W5.heap.size ∧ W5.tape = W4.tape ∧ W5.os = W4.os ∧ W5.output = W4.output ∧
        ((Value.slice a n cap).ownBlock = some g1 ∨ w.heap.size ≤ g1) ∧ g1 ≠ b7 ∧ g1 ≠ sb ∧ g1 ≠ w.heap.size + 1) := by
  obtain ⟨i, hi, hz, hsz, hby⟩ := info138
  have hO4 := hown.gr hF.gr
  unfold Own at hO4
  rw [hn0] at hO4
  have hO : (W4.alloc (.cells #[.bool false, .int .i64 0, .slice none 0 0, .bool false, .int .i64 0, .slice none 0 0, .bool false, .bool false, .bool false, .bool false, .int .u64 0] 138)).ownsRow 0 138 11 (.slice a n cap) n (flat xs) := World.ownsRow.alloc hO4 _
  have hb := heap_alloc_new W4 (.cells #[.bool false, .int .i64 0, .slice none 0 0, .bool false, .int .i64 0, .slice none 0 0, .bool false, .bool false, .bool false, .bool false, .int .u64 0] 138)
  obtain ⟨v', w5, hr, ho, hg, _, hat⟩ := run_append_own_at (P := Yba.prog) (W4.alloc (.cells #[.bool false, .int .i64 0, .slice none 0 0, .bool false, .int .i64 0, .slice none 0 0, .bool false, .bool false, .bool false, .bool false, .int .u64 0] 138)) 0 91 91 138 i _ 11 96 Yba.underlying91 hi hz hsz hby rfl (by decide) _ _ _ hO ⟨W4.heap.size, 0, none⟩ 1 1 (pc 0 0) rfl
    (fun j u hj => by
      have hadd : (⟨W4.heap.size, 0, none⟩ : Addr).add j = ⟨W4.heap.size, 0 + j, none⟩ := by unfold Addr.add; split <;> simp_all
      rw [hadd, Nat.zero_add]
      simp only [World.cell?, hb]
      have : ((pc 0 0).toArray)[j]? = some u := by simpa using hj
      exact this)
    (pc_one 0 0) (by unfold maxLen; omega) (by omega) (by omega)
  have sz : (W4.alloc (.cells #[.bool false, .int .i64 0, .slice none 0 0, .bool false, .int .i64 0, .slice none 0 0, .bool false, .bool false, .bool false, .bool false, .int .u64 0] 138)).heap.size = W4.heap.size + 1 := by simp
  rcases ho.2 with ⟨_, h0⟩ | ⟨g1, cap1, cur, rfl, hb1, hb2, hb3, r⟩
  · omega
  have hold : ∀ x, (Value.slice a n cap).ownBlock = some x → x < w.heap.size := fun x hx => hown.lt hx
  have hz4 := hF.gr.size
  have hl7 : b7 < W4.heap.size := World.block_lt_of_cell? _ _ hs
  have hcase : (Value.slice a n cap).ownBlock = some g1 ∨ g1 = W4.heap.size + 1 := by
    rcases hat with h | h
    · exact .inl h.symm
    · rw [sz] at h
      exact .inr (by simpa [Value.ownBlock] using h)
  refine ⟨w5, g1, cap1, hr, ⟨ho, hb3, fun x hx _ hob => ?_, ?_, hg.tape, hg.os, hg.output, ?_, ?_, ?_, ?_⟩⟩
  · rw [hg.block x (by omega) (fun e => hob e.symm), Below.heap_alloc _ _ _ (by omega)]
  · have := hg.size; omega
  · rcases hcase with h | h
    · exact .inl h
    · exact .inr (by omega)
  · rcases hcase with h | h
    · have := hold g1 h; omega
    · omega
  · rcases hcase with h | h
    · exact fun e => hne (by rw [h, e])
    · omega
  · rcases hcase with h | h
    · have := hold g1 h; omega
    · omega

/-- Behind the copy, and behind the store that follows. -/
theorem new_facts {w W4 W5 : World} {sb k s b7 n cap i g1 cap1 : Nat} {a : Option Addr} {xs : List (Nat × Nat)} (hp : Pt W4 b7 0 k) (hs : W4.cell? ⟨b7, 10, none⟩ = some (.int .u64 (s : Nat)))
    (hA : W5.ownsRow 0 138 11 (.slice (some ⟨g1, 0, none⟩) (n + 1) cap1) (n + 1) (flat xs ++ pc 0 0) ∧ n + 1 ≤ cap1 ∧ (∀ x, x < W4.heap.size → x ≠ g1 → (Value.slice a n cap).ownBlock ≠ some x → W5.heap[x]? = W4.heap[x]?) ∧ W4.heap.size ≤ W5.heap.size ∧ W5.tape = W4.tape ∧ W5.os = W4.os ∧ W5.output = W4.output ∧
        ((Value.slice a n cap).ownBlock = some g1 ∨ w.heap.size ≤ g1) ∧ g1 ≠ b7 ∧ g1 ≠ sb ∧ g1 ≠ w.heap.size + 1) (hown : Own w (.slice a n cap) xs) (le : w.heap.size + 2 ≤ b7) (hn0 : xs.length = n) (hi : i ≤ n) :
    Hid (Pt (W5.drew.setCells g1 ((i + 1) * 11) (flat (xs.drop i))) b7 0 k ∧ (W5.drew.setCells g1 ((i + 1) * 11) (flat (xs.drop i))).cell? ⟨b7, 10, none⟩ = some (.int .u64 (s : Nat)) ∧ (W5.drew.setCells g1 ((i + 1) * 11) (flat (xs.drop i))).there g1 (i * 11) 11 ∧
      Stored W4 g1 (Value.slice a n cap).ownBlock (.slice (some ⟨g1, 0, none⟩) (n + 1) cap1) (xs.take i ++ (k, s) :: xs.drop i) ((W5.drew.setCells g1 ((i + 1) * 11) (flat (xs.drop i))).setCells g1 (i * 11) (pc k s)) ∧
      ((Value.slice a n cap).ownBlock = some g1 ∨ w.heap.size ≤ g1) ∧ g1 ≠ b7 ∧ g1 ≠ sb ∧ g1 ≠ w.heap.size + 1) := by
  obtain ⟨ho, hc1, hfr, hsz, ht, hos, hou, hgg, hgb, hgs, hgr⟩ := hA
  have ho' : W5.drew.ownsRow 0 138 11 (.slice (some ⟨g1, 0, none⟩) (n + 1) cap1) (n + 1) (flat xs ++ pc 0 0) := row_of_block ho rfl
  have hl := flat_len (xs.drop i)
  rw [List.length_drop, hn0] at hl
  have h6 := own_setCells ho' (flat (xs.drop i)) ((i + 1) * 11) (by omega)
  have hb7 : b7 < W4.heap.size := World.block_lt_of_cell? _ _ hs
  have eb : (W5.drew.setCells g1 ((i + 1) * 11) (flat (xs.drop i))).heap[b7]? = W4.heap[b7]? := by
    rw [heap_setCells _ _ _ _ _ (Ne.symm hgb)]
    exact hfr b7 hb7 (Ne.symm hgb) (fun e => by have := hown.lt e; omega)
  have hlen : (xs.take i ++ (k, s) :: xs.drop i).length = n + 1 := by
    rw [List.length_append, List.length_cons, List.length_take, List.length_drop, hn0]
    omega
  refine ⟨hp.of_cells eb, by rw [← hs]; simp only [World.cell?, eb], fun j hj => ⟨?_, h6.frozenAt _⟩, ⟨?_, fun x hx h1 h2 => ?_, ?_, ?_, ?_, ?_⟩, hgg, hgb, hgs, hgr⟩
  · rw [h6.cellAt _ (by omega), List.getElem?_eq_getElem (by rw [h6.1]; omega)]
    rfl
  · have h7 := own_setCells h6 (pc k s) (i * 11) (by rw [pc_len]; omega)
    have e := row_absent (xs.take i) (xs.drop i) k s
    rw [List.take_append_drop, List.length_take, hn0, Nat.min_eq_left hi] at e
    rw [e] at h7
    unfold Own
    rw [hlen]
    exact h7
  · rw [heap_setCells _ _ _ _ _ h1, heap_setCells _ _ _ _ _ h1]
    exact hfr x hx h1 h2
  · rw [size_setCells, size_setCells]
    exact hsz
  · rw [(rest_setCells _ _ _ _).1, (rest_setCells _ _ _ _).1]
    exact ht
  · rw [(rest_setCells _ _ _ _).2.1, (rest_setCells _ _ _ _).2.1]
    exact hos
  · rw [(rest_setCells _ _ _ _).2.2, (rest_setCells _ _ _ _).2.2]
    exact hou

set_option maxRecDepth 100000 in
set_option maxHeartbeats 1000000 in
theorem add_new (w : World) (sb so k s kf : Nat) (v : Value) (xs : List (Nat × Nat))
    (hc : w.cell? ⟨sb, so, none⟩ = some v) (hf : w.frozen? ⟨sb, so, none⟩ = false) (hown : Own w v xs) (hne : v.ownBlock ≠ some sb) (ho : Ord xs) (hn : xs.length ≤ 256) (hj : below xs (k + 1) = below xs k) :
    Calls Yba.prog 34 #[.pointer (some ⟨sb, so, none⟩), .agg #[.bool false, .int .i64 (k : Nat), .slice none 0 0, .bool false, .int .i64 (k : Nat), .slice none 0 0, .bool false, .bool false, .bool false, .bool false], .int .u64 (s : Nat), .func (.func kf) #[] #[]] w
      fun e w' => (∃ r, e = .returned r) ∧ ∃ v', w'.heap[sb]? = (w.setCell ⟨sb, so, none⟩ v').heap[sb]? ∧ Own w' v' (xs.take (below xs k) ++ (k, s) :: xs.drop (below xs k)) ∧ (v'.ownBlock = v.ownBlock ∨ ∃ x, v'.ownBlock = some x ∧ w.heap.size ≤ x) ∧ Chg w w' (fun x => x = sb ∨ v.ownBlock = some x) := by
  obtain ⟨g, hr⟩ := hown.rd
  obtain ⟨a, cap, hv, hcap, -⟩ := hown.shape
  have hlt : below xs k ≤ xs.length := below_le xs k
  obtain ⟨i, Hi⟩ : ∃ i, Hid (below xs k = i) := ⟨_, rfl⟩
  obtain ⟨n, Hn⟩ : ∃ n, Hid (xs.length = n) := ⟨_, rfl⟩
  have Hv : Hid (v = .slice a n cap) := by show _ = _; rw [hv, Hn.out]
  clear hv
  have hmix := mixed
  have hF0 := Fr.start w sb so k _ hc
  have cE := fun W h => empty_calls W w.heap.size 0 k h
  have cS := fun W (h : Gr w W) => sharing_calls W g _ xs k (hr.gr h) ho hn
  rw [hj] at cS
  rw [Hi.out] at cS
  go_enter Yba.func34, Yba.ntmps34
  go_wp2_with (go_at_call 43; refine (cE _ hF0.rng).mono ?_; rintro e W1 ⟨rfl, g1⟩)
  have hF := hF0.to g1
  clear hF0 g1 cE
  have q0 := fun n os => (hF.to ⟨n, os, rfl⟩).set
  have qr := fun n os => (hF.to ⟨n, os, rfl⟩).rng
  have q1 := fun n os => (qr n os).1
  have q2 := fun n os => (qr n os).2.1
  have q3 := fun n os => (qr n os).2.2.1
  have q4 := fun n os => (qr n os).2.2.2.1
  have q5 := fun n os => (qr n os).2.2.2.2.1
  have q6 := fun n os => (qr n os).2.2.2.2.2.1
  have q7 := fun n os => (qr n os).2.2.2.2.2.2.1
  have q8 := fun n os => (qr n os).2.2.2.2.2.2.2.1
  have q9 := fun n os => (qr n os).2.2.2.2.2.2.2.2.1
  have q10 := fun n os => (qr n os).2.2.2.2.2.2.2.2.2
  have cS' := fun n os => cS _ (hF.to (W' := grow (W1.drewN n) os) ⟨n, os, rfl⟩).gr
  clear qr cS
  go_quiet_grown (first | (go_at_call 44; refine Calls.grown_of (cS' _ _)))
  have hF2 := hF.to ⟨nq, osq, rfl⟩
  clear q0 q1 q2 q3 q4 q5 q6 q7 q8 q9 q10 cS' hF
  generalize grow (W1.drewN nq) osq = W2 at *
  clear nq osq
  have x0 := hF2.set
  rw [Hi.out] at hlt
  rw [Hn.out] at hlt hn hcap
  have hi' : (i : Int) ≤ (n : Int) := by omega
  have hn' : (n : Int) ≤ 256 := by omega
  have hc' : (n : Int) ≤ (cap : Int) := by omega
  have hij : ((i : Int) == (i : Int) + 1) = false := by simp; omega
  have hw1 : IntKind.i64.wrap ((i : Int) + 1) = (i : Int) + 1 := by rw [IntKind.wrap_i64]; omega
  have hw2 : IntKind.i64.wrap (i : Int) = (i : Int) := by rw [IntKind.wrap_i64]; omega
  have HF : Hid (Fr w W2 w.heap.size sb so k v) := hF2
  have Hown : Hid (Own w v xs) := hown
  have Hc : Hid (w.cell? ⟨sb, so, none⟩ = some v) := hc
  have Hf : Hid (w.frozen? ⟨sb, so, none⟩ = false) := hf
  have Hne : Hid (v.ownBlock ≠ some sb) := hne
  clear hj hown hr hc hf ho hne hF2
  have hv := Hv.out
  subst hv
  go_wp2_with fail
  go_region
  have hF3 := HF.out.to (W' := W2.drew) (Gr.refl W2).drew
  clear HF x0
  generalize W2.drew = W3 at *
  obtain ⟨a0, a1, a2, a3, a4, a5, a6, a7, a8, a9⟩ := hF3.rng
  have HF : Hid (Fr w W3 w.heap.size sb so k (.slice a n cap)) := hF3
  clear hF3
  have hci : (i : Int) ≤ (cap : Int) := by omega
  obtain ⟨dp0, hif0⟩ : ∃ dp, (if cap = i then a else Option.map (fun x : Addr => x.add (i * 11)) a) = dp := ⟨_, rfl⟩
  go_wp2_with fail
  clear hif0
  have hJ := Jn2.start (s := s) HF.out
  have HJ : Hid (Fr w (W3.alloc (.cells #[.bool false, .int .i64 (k : Nat), .slice none 0 0, .bool false, .int .i64 (k : Nat), .slice none 0 0, .bool false, .bool false, .bool false, .bool false, .int .u64 (s : Nat)] 138)) w.heap.size sb so k (.slice a n cap) ∧ Pt (W3.alloc (.cells #[.bool false, .int .i64 (k : Nat), .slice none 0 0, .bool false, .int .i64 (k : Nat), .slice none 0 0, .bool false, .bool false, .bool false, .bool false, .int .u64 (s : Nat)] 138)) W3.heap.size 0 k ∧
    (W3.alloc (.cells #[.bool false, .int .i64 (k : Nat), .slice none 0 0, .bool false, .int .i64 (k : Nat), .slice none 0 0, .bool false, .bool false, .bool false, .bool false, .int .u64 (s : Nat)] 138)).cell? ⟨W3.heap.size, 10, none⟩ = some (.int .u64 (s : Nat)) ∧ w.heap.size + 2 ≤ W3.heap.size) := hJ
  clear HF a0 a1 a2 a3 a4 a5 a6 a7 a8 a9 hJ
  generalize W3.alloc (.cells #[.bool false, .int .i64 (k : Nat), .slice none 0 0, .bool false, .int .i64 (k : Nat), .slice none 0 0, .bool false, .bool false, .bool false, .bool false, .int .u64 (s : Nat)] 138) = W4 at *
  generalize W3.heap.size = b7 at *
  go_loopg [70] 0 (fun gm s70 wr => s70 = .int .i64 0 ∧ wr = W4)
  case atStart => exact ⟨rfl, rfl⟩
  case round =>
    obtain ⟨rfl, rfl⟩ := hrel
    obtain ⟨W4, rfl⟩ : ∃ W, W = wr := ⟨_, rfl⟩
    -- the row with one more element
    obtain ⟨W5, g1, cap1, hap, Hap⟩ := app_zero HJ.out.1 HJ.out.2.2.1 HJ.out.2.2.2 Hown.out Hne.out (World.block_lt_of_cell? _ _ Hc.out) Hn.out (by omega)
    go_wp2_with (at_builtin; refine wpList_append_eq rfl _ _ 91 rfl _ _ (.slice (some ⟨g1, 0, none⟩) (n + 1) cap1) rfl rfl hap ?_)
    clear hap
    have hc1 := Hap.out.2.1
    have hc2 : ¬ cap1 = i := by omega
    have hc3 : ((n + 1 : Nat) : Int) = (n : Int) + 1 := by omega
    have hc4 : (i : Int) + 1 ≤ (n : Int) + 1 := by omega
    have hc5 : (0 : Int) ≤ (i : Int) + 1 := by omega
    have hc6 : ((i : Int) + 1).toNat = i + 1 := by omega
    have hc7 : (i : Int) ≤ (n : Int) + 1 := by omega
    obtain ⟨m, hm⟩ : ∃ m, n - i = m := ⟨_, rfl⟩
    have hm1 : n + 1 - i = m + 1 := by omega
    obtain ⟨dp, hif⟩ : ∃ dp, (if cap1 = i + 1 then (some ⟨g1, 0, none⟩ : Option Addr) else some ⟨g1, (i + 1) * 11, none⟩) = dp := ⟨_, rfl⟩
    have hdp : 0 < m → dp = some ⟨g1, (i + 1) * 11, none⟩ := fun h0 => by rw [← hif, if_neg (by omega)]
    have cp : ∀ W, W.heap[g1]? = W5.heap[g1]? → (Builtin.copy_ #[91, 91] 3 #[.slice dp m (cap1 - (i + 1)), .slice (some ⟨g1, i * 11, none⟩) (m + 1) (cap1 - i)]).run Yba.prog W = .ok (.int .i64 (m : Nat)) (W.setCells g1 ((i + 1) * 11) (flat (xs.drop i))) := by
      intro W hW
      have hO : W.ownsRow 0 138 11 (.slice (some ⟨g1, 0, none⟩) (n + 1) cap1) (n + 1) (flat xs ++ pc 0 0) := row_of_block Hap.out.1 hW
      have hl := flat_len (xs.drop i)
      rw [List.length_drop, Hn.out, hm] at hl
      have h2 : flat xs = flat (xs.take i) ++ flat (xs.drop i) := by rw [← flat_append, List.take_append_drop]
      have h3 := flat_len (xs.take i)
      rw [List.length_take, Hn.out, Nat.min_eq_left (by omega)] at h3
      exact run_copy_own hO (fun u hu => by
          rcases List.mem_append.1 hu with h | h
          · exact flat_one xs u h
          · exact pc_one 0 0 u h) dp (some ⟨g1, i * 11, none⟩) m (cap1 - (i + 1)) (m + 1) (cap1 - i) m ((i + 1) * 11) (i * 11) _ 3 (by show min (m + 1) m = m; omega) hl (fun h0 => ⟨hdp h0, rfl⟩)
        (fun j hj => by rw [h2, List.append_assoc, List.getElem?_append_right (by omega), h3, Nat.add_sub_cancel_left, List.getElem?_append_left hj]) (by omega) (by omega)
    clear hdp
    go_wp2_with fail
    go_region_law (refine step_copy_eq rfl (.tmp 95) (.tmp 98) 91 rfl (.slice dp m (cap1 - (i + 1))) (.slice (some ⟨g1, i * 11, none⟩) (m + 1) (cap1 - i)) (.int .i64 (m : Nat)) (w' := W5.drew.setCells g1 ((i + 1) * 11) (flat (xs.drop i))) ?hs1 ?hs2 ?hs3 ?_; (case hs1 => go_simp); (case hs2 => go_simp); (case hs3 => exact cp _ rfl))
    have HS := new_facts (i := i) (s := s) HJ.out.2.1 HJ.out.2.2.1 Hap.out Hown.out HJ.out.2.2.2 Hn.out (by omega)
    clear cp hif Hap
    generalize W5.drew.setCells g1 ((i + 1) * 11) (flat (xs.drop i)) = W6 at *
    have hR7 := HS.out.2.2.2.1
    have ht := HS.out.2.2.1
    have Hgn : Hid (((Value.slice a n cap).ownBlock = some g1 ∨ w.heap.size ≤ g1) ∧ g1 ≠ b7 ∧ g1 ≠ sb ∧ g1 ≠ w.heap.size + 1) := HS.out.2.2.2.2
    obtain ⟨a0, a1, a2, a3, a4, a5, a6, a7, a8, a9⟩ := HS.out.1
    have a10 := HS.out.2.1
    clear HS
    go_upto_region 22 with (refine wpList_store_to rfl 138 _ _ rfl g1 (i * 11) #[.bool false, .int .i64 (k : Nat), .slice none 0 0, .bool false, .int .i64 (k : Nat), .slice none 0 0, .bool false, .bool false, .bool false, .bool false, .int .u64 (s : Nat)] rfl rfl ht info138s (all_oneCell_toArray (pc_one k s)) (Stored W4 g1 (Value.slice a n cap).ownBlock (.slice (some ⟨g1, 0, none⟩) (n + 1) cap1) (xs.take i ++ (k, s) :: xs.drop i)) hR7 ?_; intro W7 H7; obtain ⟨y0, z0, r1, r2, r3, r4⟩ := last_facts HJ.out.1 HJ.out.2.1 HJ.out.2.2.2 H7 (fun x hx => Hown.out.lt hx) Hne.out Hgn.out.2.1 Hgn.out.2.2.1 Hgn.out.2.2.2 rfl Hgn.out.1 Hc.out Hf.out; have Hr1 : Hid (Pt (W7.setCell ⟨sb, so, none⟩ (.slice (some ⟨g1, 0, none⟩) (n + 1) cap1)) b7 0 k) := r1; have Hr2 : Hid (Pt (W7.setCell ⟨sb, so, none⟩ (.slice (some ⟨g1, 0, none⟩) (n + 1) cap1)) (w.heap.size + 1) 0 0 ∧ ∀ j, (W7.setCell ⟨sb, so, none⟩ (.slice (some ⟨g1, 0, none⟩) (n + 1) cap1)).frozen? ⟨w.heap.size + 1, j, none⟩ = false) := ⟨r2, r3⟩; have Hr4 : Hid (Out w (W7.setCell ⟨sb, so, none⟩ (.slice (some ⟨g1, 0, none⟩) (n + 1) cap1)) sb so (.slice a n cap) (.slice (some ⟨g1, 0, none⟩) (n + 1) cap1) (xs.take i ++ (k, s) :: xs.drop i)) := r4; clear hR7 ht H7 r1 r2 r3 r4 a0 a1 a2 a3 a4 a5 a6 a7 a8 a9 a10)
    have d := Hr1.out
    have d' := Hr2.out
    clear Hr1 Hr2
    generalize W7.setCell ⟨sb, so, none⟩ (.slice (some ⟨g1, 0, none⟩) (n + 1) cap1) = W8 at *
    obtain ⟨a0, a1, a2, a3, a4, a5, a6, a7, a8, a9⟩ := d
    obtain ⟨⟨d0, d1, d2, d3, d4, d5, d6, d7, d8, d9⟩, z⟩ := d'
    clear y0 z0
    go_wp2_with fail
    have hend : ∀ W, Out w W sb so (.slice a n cap) (.slice (some ⟨g1, 0, none⟩) (n + 1) cap1) (xs.take i ++ (k, s) :: xs.drop i) → (∃ r, Ending.returned (.tuple #[.agg #[.bool false, .int .i64 (k : Nat), .slice none 0 0, .bool false, .int .i64 (k : Nat), .slice none 0 0, .bool false, .bool false, .bool false, .bool false], .bool true]) = .returned r) ∧ ∃ v', W.heap[sb]? = (w.setCell ⟨sb, so, none⟩ v').heap[sb]? ∧ Own W v' (xs.take (below xs k) ++ (k, s) :: xs.drop (below xs k)) ∧
        (v'.ownBlock = (Value.slice a n cap).ownBlock ∨ ∃ x, v'.ownBlock = some x ∧ w.heap.size ≤ x) ∧ Chg w W (fun x => x = sb ∨ (Value.slice a n cap).ownBlock = some x) :=
      fun W h => ⟨⟨_, rfl⟩, _, h.blk, by rw [Hi.out]; exact h.own, h.at', h.chg⟩
    refine bodyPost_ret ?_ rfl (hend _ ?_)
    · rw [results_cell_tmp rfl]
      go_simp
    · have hnb : (Value.slice (some ⟨g1, 0, none⟩) (n + 1) cap1).ownBlock ≠ some (w.heap.size + 1) := fun e => Hgn.out.2.2.2 (by simpa [Value.ownBlock] using e)
      repeat (refine Out.setCell ?_ (by omega) hnb (World.block_lt_of_cell? _ _ Hc.out) _ _)
      exact Hr4.out

theorem add_calls (w : World) (sb so k s kf : Nat) (v : Value) (xs : List (Nat × Nat)) (kp : Nat → Nat → Nat) (eg : ∀ args w, (callFunc kf args).run Yba.prog w = .ok (.enter kf args) w)
    (hkf : ∀ W a b, Calls Yba.prog kf #[.int .u64 (a : Nat), .int .u64 (b : Nat)] W fun e w' => e = .returned (.int .u64 (kp a b : Nat)) ∧ w' = W) (hcomm : ∀ a b, kp a b = kp b a)
    (hc : w.cell? ⟨sb, so, none⟩ = some v) (hf : w.frozen? ⟨sb, so, none⟩ = false) (hown : Own w v xs) (hne : v.ownBlock ≠ some sb) (ho : Ord xs) (hn : xs.length ≤ 256) :
    Calls Yba.prog 34 #[.pointer (some ⟨sb, so, none⟩), .agg #[.bool false, .int .i64 (k : Nat), .slice none 0 0, .bool false, .int .i64 (k : Nat), .slice none 0 0, .bool false, .bool false, .bool false, .bool false], .int .u64 (s : Nat), .func (.func kf) #[] #[]] w
      fun e w' => (∃ r, e = .returned r) ∧ ∃ v', Out w w' sb so v v' (ins kp xs k s) := by
  rcases below_has ho k with ⟨hj, _⟩ | ⟨hj, old, hget⟩
  · refine (add_new w sb so k s kf v xs hc hf hown hne ho hn hj).mono fun e w' ⟨hr, v', h1, h2, h3, h4⟩ => ⟨hr, v', h1, ?_, h3, h4⟩
    unfold ins
    rw [if_pos hj]
    exact h2
  · have hgd : xs.getD (below xs k) (0, 0) = (k, old) := by rw [List.getD_eq_getElem?_getD, hget]; rfl
    have hins : ins kp xs k s = xs.set (below xs k) (k, kp old s) := by
      unfold ins
      rw [if_neg (by omega), hgd]
    by_cases hold : kp old s = old
    · refine (add_same w sb so k s kf v xs kp eg hkf hc hown ho hn old hget hj hold).mono fun e w' ⟨hr, v', h1, h2, h3, h4⟩ => ⟨hr, v', h1, ?_, h3, h4⟩
      rw [hins, hold]
      have : xs.set (below xs k) (k, old) = xs := by
        apply List.ext_getElem?
        intro j
        rw [List.getElem?_set]
        split
        · rename_i e'
          subst e'
          rw [hget, if_pos (List.getElem?_eq_some_iff.1 hget).1]
        · rfl
      rw [this]
      exact h2
    · refine (add_turn w sb so k s kf v xs kp eg hkf hc hf hown hne ho hn old hget hj hold).mono fun e w' ⟨hr, v', h1, h2, h3, h4⟩ => ⟨hr, v', h1, ?_, h3, h4⟩
      rw [hins, hcomm old s]
      exact h2

end Go.Proofs.Ybulkbopq
