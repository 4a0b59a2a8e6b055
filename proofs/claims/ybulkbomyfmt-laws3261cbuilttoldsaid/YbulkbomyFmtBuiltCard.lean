/-
  LawS3261CBuilt: the card.
-/
import Derived.Test.YbulkbomyFmtLaidC
import Derived.Test.YbulkbomyFmtBuilt
import Derived.Deep.Slices
namespace Go.Proofs.YbulkbomyFmt
open Go.ChangeShapes Go.WideShapes Go.ChangeAt Go.RowKit Go.Extern.Stop Go.Stop Go.Extern

theorem cells48 : Ybaf.prog.cellsOf 48 = 2 := by kernel_rfl
theorem cells22 : Ybaf.prog.cellsOf 22 = 1 := by kernel_rfl

theorem add_at (b o i : Nat) : (⟨b, o, none⟩ : Addr).add i = ⟨b, o + i, none⟩ := by unfold Addr.add; split <;> simp_all

/-- A slice of bytes in a cell, read: the bytes. -/
theorem bytes_of {H : Type} {enc : TypeId × Value → H} {W : World} {fuel : Nat} {v : Value} {x : DataW H × List MemPlace} (h : DataW.trod enc Ybaf.prog W 0 (fun _ => true) true fuel 22 [v] = some x) :
    ∃ (a : Option Addr) (cap : Nat) (xs : List Int), v = .slice a xs.length cap ∧ xs.length ≤ cap ∧ cap ≤ maxLen ∧ Src W W.heap.size a xs ∧ ∀ n ∈ xs, 0 ≤ n ∧ n ≤ 255 := by
  rcases open_ints Ybaf.underlying22 Ybaf.underlying5 cells5 h with ⟨hcs, _⟩ | ⟨a, len, cap, zs, hcs, _, hl, hm, hz, _, hcell, hwz⟩
  · simp only [List.cons.injEq, and_true] at hcs
    exact ⟨none, 0, [], hcs, by simp, by simp, fun h0 => by simp at h0, by simp⟩
  · simp only [List.cons.injEq, and_true] at hcs
    simp only [if_true] at hz
    have hlen : (zs.take len).length = len := by rw [List.length_take]; omega
    refine ⟨some a, cap, zs.take len, by rw [hlen]; exact hcs, by omega, hm, fun h0 => ?_, fun n hn => bounds_u8 (hwz n (List.mem_of_mem_take hn))⟩
    rw [hlen] at h0
    have hc0 := hcell 0 (by omega)
    obtain ⟨b, o, spot⟩ := a
    have hspot : spot = none := by simpa [Addr.add] using World.cell?_spot hc0
    subst hspot
    refine ⟨b, o, rfl, ?_, fun j hj => ?_⟩
    · have := block_lt_of_cell hc0
      simpa [Addr.add] using this
    · rw [hlen] at hj
      have := hcell j (by omega)
      rw [add_at] at this
      rw [this, List.getD_eq_getElem?_getD, List.getD_eq_getElem?_getD, List.getElem?_take, if_pos hj]

/-- One sub-option, read. -/
theorem sub_of {H : Type} {enc : TypeId × Value → H} {W : World} {fuel : Nat} {cs : List Value} {x : DataW H × List MemPlace} (h : DataW.trod enc Ybaf.prog W 0 (fun _ => true) true fuel 48 cs = some x) :
    ∃ (code : Nat) (a : Option Addr) (cap : Nat) (xs : List Int), code < 256 ∧ cs = [.int .u8 code, .slice a xs.length cap] ∧ xs.length ≤ cap ∧ cap ≤ maxLen ∧ Src W W.heap.size a xs ∧ ∀ n ∈ xs, 0 ≤ n ∧ n ≤ 255 := by
  obtain ⟨y0, y1, n, rfl, hl, h0, h1⟩ := trod_struct2 Ybaf.underlying48 h
  rw [cells48] at hl
  obtain ⟨c0, c1, rfl⟩ := two_of hl
  obtain ⟨m, e0, rfl, wm⟩ := DataW.trod_int Ybaf.underlying5 h0
  have h1' : DataW.trod enc Ybaf.prog W 0 (fun _ => true) true n 22 [c1] = some y1 := by
    have e : (([c0, c1] : List Value).drop 1).take (Ybaf.prog.cellsOf 22) = [c1] := by rw [cells22]; rfl
    rw [← e]; exact h1
  simp only [List.drop_zero, cells5, List.take_succ_cons, List.take_zero, List.cons.injEq, and_true] at e0
  subst e0
  obtain ⟨a, cap, xs, rfl, r1, r2, r3, r4⟩ := bytes_of h1'
  have bm := bounds_u8 wm
  obtain ⟨code, rfl⟩ := Int.eq_ofNat_of_zero_le bm.1
  exact ⟨code, a, cap, xs, by omega, rfl, r1, r2, r3, r4⟩

/-- The sub-options that came in, read. -/
theorem subs_of {H : Type} {enc : TypeId × Value → H} {W : World} {a0 : Option Addr} {len cap : Nat} {d : DataW H} {p : List MemPlace} (h : DataW.Trod enc Ybaf.prog W 0 (fun _ => true) true 46 (.slice a0 len cap) d p) :
    len ≤ cap ∧ ∃ sb so code da dc xs, (0 < len → a0 = some ⟨sb, so, none⟩) ∧ Subs W sb so len code da dc xs := by
  obtain ⟨fuel, hf⟩ := h
  rcases Deep.open_slice Ybaf.underlying46 hf with ⟨hcs, _⟩ | ⟨a, len', cap', m, n, D, Pl', hcs, _, hl, hm, hmm, _, hx⟩
  · simp [Value.cells] at hcs
    obtain ⟨rfl, rfl, rfl⟩ := hcs
    exact ⟨Nat.le_refl _, 0, 0, fun _ => 0, fun _ => none, fun _ => 0, fun _ => [], fun h0 => by omega, ⟨fun k hk => by omega, fun k hk => by omega, fun k hk => by omega, fun k hk => by omega⟩⟩
  · simp [Value.cells] at hcs
    obtain ⟨rfl, rfl, rfl⟩ := hcs
    simp only [if_true] at hmm
    subst hmm
    refine ⟨hl, ?_⟩
    have one : ∀ i, i < len → ∃ q : Nat × Option Addr × Nat × List Int, q.1 < 256 ∧ W.cell? (a.add (i * 2)) = some (.int .u8 q.1) ∧ W.cell? ((a.add (i * 2)).add 1) = some (.slice q.2.1 q.2.2.2.length q.2.2.1) ∧
        q.2.2.2.length ≤ q.2.2.1 ∧ q.2.2.1 ≤ maxLen ∧ Src W W.heap.size q.2.1 q.2.2.2 ∧ ∀ n ∈ q.2.2.2, 0 ≤ n ∧ n ≤ 255 := by
      intro i hi
      obtain ⟨cs', hcs', ht⟩ := hx i (by omega)
      rw [cells48] at hcs'
      obtain ⟨_, _, hc⟩ := World.cells?_some hcs'
      obtain ⟨code, b, cp, xs, r0, rfl, r1, r2, r3, r4⟩ := sub_of ht
      have hc0 := hc 0 (by omega)
      have hc1 := hc 1 (by omega)
      refine ⟨(code, b, cp, xs), r0, ?_, ?_, r1, r2, r3, r4⟩
      · have e : (a.add (i * 2)).add 0 = a.add (i * 2) := by simp [Addr.add]
        rw [e] at hc0
        exact hc0
      · exact hc1
    obtain ⟨q, hq⟩ := Deep.choose_lt one
    by_cases h0 : len = 0
    · subst h0
      exact ⟨0, 0, fun _ => 0, fun _ => none, fun _ => 0, fun _ => [], fun h0 => by omega, ⟨fun k hk => by omega, fun k hk => by omega, fun k hk => by omega, fun k hk => by omega⟩⟩
    · have hc0 := (hq 0 (by omega)).2.1
      obtain ⟨b, o, spot⟩ := a
      have hspot : spot = none := by simpa [Addr.add] using World.cell?_spot hc0
      subst hspot
      refine ⟨b, o, fun k => (q k).1, fun k => (q k).2.1, fun k => (q k).2.2.1, fun k => (q k).2.2.2, fun _ => rfl, ⟨fun k hk => ?_, fun k hk => ?_, fun k hk => (hq k hk).2.2.2.2.2.1, fun k hk => (hq k hk).2.2.2.2.2.2⟩⟩
      · have := (hq k hk).2.1
        rw [add_at] at this
        exact ⟨(hq k hk).1, this⟩
      · have := (hq k hk).2.2.1
        rw [add_at, add_at] at this
        exact ⟨this, (hq k hk).2.2.2.1, (hq k hk).2.2.2.2.1⟩

set_option maxRecDepth 100000 in
theorem built_lifted (os : Os) (started : os.Started) (H : Type) (enc : TypeId × Value → H) :
    ReturnsInTold none {} Ybaf.checked os 6 .any Input.okWide ((OpenSpec.ofChange Rows.lawS3261CBuiltSpec).preRow enc Ybaf.prog Ybaf.f6 Rows.lawS3261CBuiltRow.domain false Rows.lawS3261CBuiltRow.laid)
      (fun F => ((OpenSpec.ofChange Rows.lawS3261CBuiltSpec).at F).post enc Ybaf.prog Ybaf.f6 false true false false) (aloneAtReturn Ybaf.prog) nothingAlways := by
  refine returnsInTold_of_row (C := Ybaf.checked) (s := OpenSpec.ofChange Rows.lawS3261CBuiltSpec) (by kernel_rfl) own started (by kernel_rfl) Ybaf.func6
    (OpenSpec.witness_stopped_at (enc := enc) (C := Ybaf.checked) false (laidW Ybaf.prog os (.cells #[] 79) 1 (fun _ => #[.bool false, .string subBytes])) #[.slice none 0 0, .bool false, .int .u8 0] rfl (by kernel_rfl) (by kernel_rfl) (by kernel_rfl)
      (OpenSpec.preRow_of_B rfl 8 (by kernel_rfl) (by kernel_rfl) (laidS_met os _))) ?_
  intro F W base args ds gs before _ _ hval0 hW _ _ _ hL _
  have hval : ∀ (j : Nat) t v, Ybaf.f6.params[j]? = some t → args[j]? = some v → Value.okWide Ybaf.prog W .any base t v := hval0
  have hW' := hW
  obtain ⟨p, q, hA0, hV0, rfl, hfz, hnd⟩ := hW
  have hA : DataW.TrodAll enc Ybaf.prog W 0 (fun _ => true) true Ybaf.f6.params.toList args.toList ds p := hA0
  have hV : DataW.TrodVars enc Ybaf.prog W (fun _ => true) [subName] gs q := hV0
  rw [Ybaf.params6] at hA hval
  obtain ⟨v0, vs0, d0, ds0, p0, q0, hargs, rfl, rfl, h0, r0⟩ := trodAll_cons hA
  obtain ⟨v1, vs1, d1, ds1, p1, q1, rfl, rfl, rfl, h1, r1⟩ := trodAll_cons r0
  obtain ⟨v2, vs2, d2, ds2, p2, q2, rfl, rfl, rfl, h2, r2⟩ := trodAll_cons r1
  obtain ⟨rfl, rfl, rfl⟩ := trodAll_nil r2
  obtain rfl : args = #[v0, v1, v2] := by cases args; simp_all
  obtain ⟨a0, len0, cap0, rfl⟩ := okWide_slice Ybaf.underlying46 (hval 0 46 v0 rfl rfl)
  have k0 := h0
  have lt0 : ∀ x ∈ p0, x.block < W.heap.size := by obtain ⟨m, hm⟩ := k0; exact DataW.trod_lt m _ _ _ hm
  obtain ⟨b1, rfl, rfl, rfl⟩ := open_bool Ybaf.underlying4 (hval 1 4 v1 rfl rfl) h1
  obtain ⟨a2, rfl, rfl, rfl, w2⟩ := open_int Ybaf.underlying5 (hval 2 5 v2 rfl rfl) h2
  have bd2 := bounds_u8 w2
  obtain ⟨s, hv, hs⟩ := sub_of_laid hL
  obtain ⟨hg0, hg1⟩ := sub_cells hv
  obtain ⟨hle, sb, so, code, da, dc, xs, ha, hS⟩ := subs_of h0
  clear hA0 hval0 hV0
  have hwalk : Calls Ybaf.prog 6 #[.slice a0 len0 cap0, .bool b1, .int .u8 a2] W fun e w' => e = .returned (.bool true) ∧ Below W.heap.size W w' := by
    by_cases h512 : len0 ≤ 512
    · exact built_some W a0 sb so len0 cap0 ha h512 hle b1 a2 bd2.1 bd2.2 code da dc xs hS s hg0 hg1
    · exact built_long W a0 len0 cap0 _ _ (by omega)
  refine hwalk.mono fun e W' ⟨he, bel⟩ => ?_
  subst he
  obtain ⟨dv, rfl, hVV⟩ := sub_again hv hV bel
  exact ⟨_, rfl, _, _, _, [], _, _, hW', trodAll_mk1 (shut_bool Ybaf.underlying4 _), (trodAll_cons_mk (Below.trod laidOut (by kernel_rfl) (of_decide_eq_true (by kernel_rfl)) k0 bel lt0) (trodAll_cons_mk (shut_bool Ybaf.underlying4 b1) (trodAll_cons_mk (shut_int Ybaf.underlying5 w2) trodAll_mk0))), hVV, bel.frame _, fun h => by cases h⟩

theorem built_proved : Rows.LawS3261CBuiltToldSaid :=
  Claim7.holds_of_told_tied_any_at .later 6 Ybaf.f6 "fmt.errorf" ["fmt.Sprintf"] [] _ _ _ _ _ (by kernel_rfl) rfl rfl rfl laidOut (by kernel_rfl) rfl ⟨rfl, rfl, rfl, rfl, rfl, rfl, rfl⟩ rfl rfl (by kernel_rfl) (by kernel_rfl) Ybaf.func6 (by kernel_rfl)
    (of_decide_eq_true (by kernel_rfl)) (by unfold Func.isWrapper; first | (rw [if_pos (by decide +kernel)]; kernel_rfl) | (rw [if_neg (by decide +kernel)]; exact ⟨rfl, rfl⟩)) stopsAre.symm rfl stopKnobs.symm (by kernel_rfl)
    (by kernel_rfl) (by kernel_rfl) (by kernel_rfl) (by kernel_rfl) (by kernel_rfl) (by kernel_rfl) (by kernel_rfl) (by kernel_rfl) (by kernel_rfl) rfl (by kernel_rfl) rfl rfl
    rfl rfl
    rfl (by kernel_rfl) (by kernel_rfl) (by kernel_rfl) (by decide) (by kernel_rfl) lawS3261CBuilt_row_tie
    (OpenClaim.moreEntering_of (by kernel_rfl) (by kernel_rfl) (by kernel_rfl) (by kernel_rfl) (by kernel_rfl) (by kernel_rfl) (by kernel_rfl) (by kernel_rfl) (by kernel_rfl) (by kernel_rfl))
    ⟨_, WideRow.started_initial, quiet _⟩
    (fun os started _ H enc _ => built_lifted os started H enc)

#print axioms built_proved
end Go.Proofs.YbulkbomyFmt
