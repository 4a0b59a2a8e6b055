/-
  LawS3279BRelease: the row.
-/
import Derived.Test.YbulkbowqRead
import Derived.Test.YbulkbowqLaw
namespace Go.Proofs.Ybulkbowq
open Go.ChangeShapes Go.WideShapes Go.ChangeAt Go.RowKit
set_option linter.unusedVariables false

set_option maxRecDepth 100000 in
theorem release_lifted (os : Os) (started : os.Started) (H : Type) (enc : TypeId × Value → H) :
    ReturnsInHanded {} Yba.checked os 3 .any (Rows.lawS3279BReleaseSpec.pre6 enc Yba.prog Yba.f3 Rows.lawS3279BReleaseRow.domain false) (Rows.lawS3279BReleaseSpec.post enc Yba.prog Yba.f3 false true false false) := by
  refine returnsInHanded_of_change (C := Yba.checked) own started (by kernel_rfl) Yba.func3
    (ChangeSpec.witness6 (enc := enc) (C := Yba.checked) false ⟨#[], #[.agg #[.int .u8 0, .int .i32 0, .int .i32 0, .slice none 0 0, .slice none 0 0, .slice none 0 0, .int .u8 0, .int .u8 0]], []⟩ 8 (by kernel_rfl) (by kernel_rfl) (by kernel_rfl) (by kernel_rfl)) ?_
  intro W base args ds gs before hval0 hW hcnd _
  have hval : ∀ (j : Nat) t v, Yba.f3.params[j]? = some t → args[j]? = some v → Value.okWide Yba.prog W .any base t v := hval0
  have hW' := hW
  obtain ⟨p, q, hA0, hV, rfl, hfz, hnd⟩ := hW
  have hA : DataW.TrodAll enc Yba.prog W 0 (fun _ => true) true Yba.f3.params.toList args.toList ds p := hA0
  rw [Yba.params3] at hA hval
  obtain ⟨v0, vs0, d0, ds0, p0, q0, hargs, rfl, rfl, h0, r0⟩ := trodAll_cons hA
  obtain ⟨rfl, rfl, rfl⟩ := trodAll_nil r0
  obtain rfl : args = #[v0] := by cases args; simp_all
  obtain ⟨rfl, rfl⟩ := trodVars_none hV
  have lt0 : ∀ x ∈ p0, x.block < W.heap.size := by obtain ⟨m, hm⟩ := id h0; exact DataW.trod_lt m _ _ _ hm
  obtain ⟨cs, rfl, hsz⟩ := okWide_struct Yba.underlying26 (hval 0 26 v0 rfl rfl)
  obtain ⟨fuel, hf⟩ := id h0
  obtain ⟨nd, pre, qv, ow, reach, aB, aK, aD, lB, cB, lK, cK, lD, cD, bt, dr, ka, L, cp, X, e, hnd', hpre, hqv, how, hre, s1, s2, s3⟩ := arg_of hf
  obtain rfl : cs = #[.int .u8 (nd : Nat), .int .i32 ow, .int .i32 reach, .slice aB lB cB, .slice aK lK cK, .slice aD lD cD, .int .u8 (pre : Nat), .int .u8 (qv : Nat)] := by
    cases cs
    simpa [Value.cells] using e
  clear hA0 hval0
  refine (law_walk W nd pre qv ow reach aB aK aD lB cB lK cK lD cD bt dr ka L cp X hnd' hpre hqv how hre s1 s2 s3).mono fun e W' ⟨he, bel⟩ => ?_
  subst he
  exact ⟨_, rfl, _, _, _, [], _, [], hW', trodAll_mk1 (shut_bool Yba.underlying4 _), (trodAll_cons_mk (Below.trod laidOut (by kernel_rfl) (of_decide_eq_true (by kernel_rfl)) h0 bel lt0) trodAll_mk0), rfl, bel.frame _, fun h => by cases h⟩

theorem release_proved : Rows.LawS3279BReleaseSaid :=
  OpenClaim.holds_of_wide 3 Yba.f3 rfl rfl rfl rfl rfl rfl rfl ⟨rfl, rfl, rfl, rfl, rfl⟩ rfl rfl rfl rfl rfl (by kernel_rfl) Yba.func3 (by kernel_rfl)
    (of_decide_eq_true (by kernel_rfl)) (by unfold Func.isWrapper; first | (rw [if_pos (by decide +kernel)]; kernel_rfl) | (rw [if_neg (by decide +kernel)]; exact ⟨rfl, rfl⟩))
    (fun os started H enc _ => release_lifted os started H enc)

#print axioms release_proved
end Go.Proofs.Ybulkbowq
