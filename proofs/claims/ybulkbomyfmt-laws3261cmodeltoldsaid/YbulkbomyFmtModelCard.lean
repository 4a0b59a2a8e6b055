/-
  LawS3261CModel: the card.
-/
import Derived.Test.YbulkbomyFmtLaidC
import Derived.Test.YbulkbomyFmtModel
namespace Go.Proofs.YbulkbomyFmt
open Go.ChangeShapes Go.WideShapes Go.ChangeAt Go.RowKit Go.Extern.Stop Go.Stop Go.Extern

theorem add_at' (b o i : Nat) : (⟨b, o, none⟩ : Addr).add i = ⟨b, o + i, none⟩ := by unfold Addr.add; split <;> simp_all

/-- A slice of bytes in a cell, read: the bytes. -/
theorem bytes_of' {H : Type} {enc : TypeId × Value → H} {W : World} {fuel : Nat} {v : Value} {x : DataW H × List MemPlace} (h : DataW.trod enc Ybaf.prog W 0 (fun _ => true) true fuel 22 [v] = some x) :
    ∃ (a : Option Addr) (cap : Nat) (xs : List Int), v = .slice a xs.length cap ∧ xs.length ≤ cap ∧ cap ≤ maxLen ∧ Src W W.heap.size a xs ∧ ∀ n ∈ xs, 0 ≤ n ∧ n ≤ 255 := by
  rcases open_ints Ybaf.underlying22 Ybaf.underlying5 cells5 h with ⟨hcs, _⟩ | ⟨a, len, cap, zs, hcs, _, hl, hm, hz, _, hcell, hwz⟩
  · simp only [List.cons.injEq, and_true] at hcs
    exact ⟨none, 0, [], hcs, by simp, by simp, fun h0 => by simp at h0, by simp⟩
  · simp only [List.cons.injEq, and_true] at hcs
    simp only [if_true] at hz
    have hlen : (zs.take len).length = len := by rw [List.length_take]; omega
    refine ⟨some a, cap, zs.take len, by rw [hlen]; exact hcs, by omega, hm, fun h0 => ?_, fun n hn => bounds_u8 (hwz n (List.mem_of_mem_take hn))⟩
    rw [hlen] at h0
    have hc0 := hcell 0 (by omega)
    obtain ⟨b, o, spot⟩ := a
    have hspot : spot = none := by simpa [Addr.add] using World.cell?_spot hc0
    subst hspot
    refine ⟨b, o, rfl, ?_, fun j hj => ?_⟩
    · have := block_lt_of_cell hc0
      simpa [Addr.add] using this
    · rw [hlen] at hj
      have := hcell j (by omega)
      rw [add_at'] at this
      rw [this, List.getD_eq_getElem?_getD, List.getD_eq_getElem?_getD, List.getElem?_take, if_pos hj]

set_option maxRecDepth 100000 in
theorem model_lifted (os : Os) (started : os.Started) (H : Type) (enc : TypeId × Value → H) :
    ReturnsInTold none {} Ybaf.checked os 5 .any Input.okWide ((OpenSpec.ofChange Rows.lawS3261CModelSpec).preRow enc Ybaf.prog Ybaf.f5 Rows.lawS3261CModelRow.domain false Rows.lawS3261CModelRow.laid)
      (fun F => ((OpenSpec.ofChange Rows.lawS3261CModelSpec).at F).post enc Ybaf.prog Ybaf.f5 false true false false) (aloneAtReturn Ybaf.prog) nothingAlways := by
  refine returnsInTold_of_row (C := Ybaf.checked) (s := OpenSpec.ofChange Rows.lawS3261CModelSpec) (by kernel_rfl) own started (by kernel_rfl) Ybaf.func5
    (OpenSpec.witness_stopped_at (enc := enc) (C := Ybaf.checked) false (laidW Ybaf.prog os (.cells #[] 79) 1 (fun _ => #[.bool false, .string subBytes])) #[.slice none 0 0] rfl (by kernel_rfl) (by kernel_rfl) (by kernel_rfl)
      (OpenSpec.preRow_of_B rfl 8 (by kernel_rfl) (by kernel_rfl) (laidS_met os _))) ?_
  intro F W base args ds gs before _ _ hval0 hW _ _ _ hL _
  have hval : ∀ (j : Nat) t v, Ybaf.f5.params[j]? = some t → args[j]? = some v → Value.okWide Ybaf.prog W .any base t v := hval0
  have hW' := hW
  obtain ⟨p, q, hA0, hV0, rfl, hfz, hnd⟩ := hW
  have hA : DataW.TrodAll enc Ybaf.prog W 0 (fun _ => true) true Ybaf.f5.params.toList args.toList ds p := hA0
  have hV : DataW.TrodVars enc Ybaf.prog W (fun _ => true) [subName] gs q := hV0
  rw [Ybaf.params5] at hA hval
  obtain ⟨v0, vs0, d0, ds0, p0, q0, hargs, rfl, rfl, h0, r0⟩ := trodAll_cons hA
  obtain ⟨rfl, rfl, rfl⟩ := trodAll_nil r0
  obtain rfl : args = #[v0] := by cases args; simp_all
  obtain ⟨a0, len0, cap0, rfl⟩ := okWide_slice Ybaf.underlying22 (hval 0 22 v0 rfl rfl)
  have k0 := h0
  have lt0 : ∀ x ∈ p0, x.block < W.heap.size := by obtain ⟨m, hm⟩ := k0; exact DataW.trod_lt m _ _ _ hm
  obtain ⟨s, hv, hs⟩ := sub_of_laid hL
  obtain ⟨hg0, hg1⟩ := sub_cells hv
  obtain ⟨a1, cap1, xs, hv1, hle, hcm, hsrc, hby⟩ : ∃ (a : Option Addr) (cap : Nat) (xs : List Int), Value.slice a0 len0 cap0 = .slice a xs.length cap ∧ xs.length ≤ cap ∧ cap ≤ maxLen ∧ Src W W.heap.size a xs ∧ ∀ n ∈ xs, 0 ≤ n ∧ n ≤ 255 := by
    obtain ⟨fuel, hf⟩ := h0
    exact bytes_of' (by simpa [Value.cells] using hf)
  simp only [Value.slice.injEq] at hv1
  obtain ⟨rfl, rfl, rfl⟩ := hv1
  clear hA0 hval0 hV0
  have hwalk : Calls Ybaf.prog 5 #[.slice a0 xs.length cap0] W fun e w' => e = .returned (.bool true) ∧ Below W.heap.size W w' := by
    by_cases h4096 : xs.length ≤ 4096
    · exact law_model W a0 cap0 xs s h4096 hle hcm hby (fun h => by
        obtain ⟨b, o, e, _, hc⟩ := hsrc h
        exact ⟨b, o, e, hc⟩) hg0 hg1
    · exact law_long W a0 _ cap0 (by omega)
  refine hwalk.mono fun e W' ⟨he, bel⟩ => ?_
  subst he
  obtain ⟨dv, rfl, hVV⟩ := sub_again hv hV bel
  exact ⟨_, rfl, _, _, _, [], _, _, hW', trodAll_mk1 (shut_bool Ybaf.underlying4 _), (trodAll_cons_mk (Below.trod laidOut (by kernel_rfl) (of_decide_eq_true (by kernel_rfl)) k0 bel lt0) trodAll_mk0), hVV, bel.frame _, fun h => by cases h⟩

theorem model_proved : Rows.LawS3261CModelToldSaid :=
  Claim7.holds_of_told_tied_any_at .later 5 Ybaf.f5 "fmt.errorf" ["fmt.Sprintf"] [] _ _ _ _ _ (by kernel_rfl) rfl rfl rfl laidOut (by kernel_rfl) rfl ⟨rfl, rfl, rfl, rfl, rfl, rfl, rfl⟩ rfl rfl (by kernel_rfl) (by kernel_rfl) Ybaf.func5 (by kernel_rfl)
    (of_decide_eq_true (by kernel_rfl)) (by unfold Func.isWrapper; first | (rw [if_pos (by decide +kernel)]; kernel_rfl) | (rw [if_neg (by decide +kernel)]; exact ⟨rfl, rfl⟩)) stopsAre.symm rfl stopKnobs.symm (by kernel_rfl)
    (by kernel_rfl) (by kernel_rfl) (by kernel_rfl) (by kernel_rfl) (by kernel_rfl) (by kernel_rfl) (by kernel_rfl) (by kernel_rfl) (by kernel_rfl) rfl (by kernel_rfl) rfl rfl
    rfl rfl
    rfl (by kernel_rfl) (by kernel_rfl) (by kernel_rfl) (by decide) (by kernel_rfl) lawS3261CModel_row_tie
    (OpenClaim.moreEntering_of (by kernel_rfl) (by kernel_rfl) (by kernel_rfl) (by kernel_rfl) (by kernel_rfl) (by kernel_rfl) (by kernel_rfl) (by kernel_rfl) (by kernel_rfl) (by kernel_rfl))
    ⟨_, WideRow.started_initial, quiet _⟩
    (fun os started _ H enc _ => model_lifted os started H enc)

#print axioms model_proved
end Go.Proofs.YbulkbomyFmt
