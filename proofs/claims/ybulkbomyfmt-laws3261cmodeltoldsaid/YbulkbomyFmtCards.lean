/-
  DERIVED. GIVEN WITH THE SEED: THE CARDS: each row of YbulkbomyFmtRows.lean that lists a variable, with what it lists TIED to the program's text (the seventh form; the later family's looks); each row that meets fmt, with fmt's text TOLD by the authors' own Lean function (tested against real Go, not proved from fmt's source: count such statements apart). THE CARD IS WHAT COUNTS. Prove the row's statement (the work); the ties are given (YbulkbomyFmtTie.lean); close each card by the builder's one call (the guide's Derived/Test/ToyasCard.lean, 'card_holds'). Laid BY PROGRAM, IN A SANDBOX (cutbox-door.mjs). By AI agents, Wed Nov 11 2026. No macro, syntax, notation, axiom, sorry.
-/
import Derived.Test.YbulkbomyFmtRows
import GoSem.ClaimSeven
namespace Go.Proofs.YbulkbomyFmt
namespace Rows

/-- THE TOLD AND TIED CARD OF 'capture.LawS3261ARefuses'. -/
def lawS3261ARefusesCard : Claim7 := { stood := { row := lawS3261ARefusesRow, standIns := [], harness := (true, "4020124907e43c1401389a35e3e4890a744639ce621476104e662b80b66e5dca"), looks := true }, told := true, laidByText := true, laidKinds := [.sentinel], laidTests := true, laidLooks := .later, goes := false }
def LawS3261ARefusesToldSaid : Prop := Claim7.holds Ybaf.pinned (.plain (OpenSpec.ofChange lawS3261ARefusesSpec)) lawS3261ARefusesCard
/-- ITS FALSE NEIGHBOUR. Refute it at one input. -/
def LawS3261ARefusesToldWrongFalsely : Prop := Claim7.holds Ybaf.pinned (.plain (OpenSpec.ofChange lawS3261ARefusesWrong)) lawS3261ARefusesCard

/-- THE TOLD AND TIED CARD OF 'capture.LawS3261AShortStart'. -/
def lawS3261AShortStartCard : Claim7 := { stood := { row := lawS3261AShortStartRow, standIns := [], harness := (true, "4020124907e43c1401389a35e3e4890a744639ce621476104e662b80b66e5dca"), looks := true }, told := true, laidByText := true, laidKinds := [.sentinel], laidTests := true, laidLooks := .later, goes := false }
def LawS3261AShortStartToldSaid : Prop := Claim7.holds Ybaf.pinned (.plain (OpenSpec.ofChange lawS3261AShortStartSpec)) lawS3261AShortStartCard
/-- ITS FALSE NEIGHBOUR. Refute it at one input. -/
def LawS3261AShortStartToldWrongFalsely : Prop := Claim7.holds Ybaf.pinned (.plain (OpenSpec.ofChange lawS3261AShortStartWrong)) lawS3261AShortStartCard

/-- THE TOLD AND TIED CARD OF 'dhcpv4.LawS3261CModel'. -/
def lawS3261CModelCard : Claim7 := { stood := { row := lawS3261CModelRow, standIns := [], harness := (true, "4020124907e43c1401389a35e3e4890a744639ce621476104e662b80b66e5dca"), looks := true }, told := true, laidByText := true, laidKinds := [.data], laidTests := true, laidLooks := .later, goes := false }
def LawS3261CModelToldSaid : Prop := Claim7.holds Ybaf.pinned (.plain (OpenSpec.ofChange lawS3261CModelSpec)) lawS3261CModelCard
/-- ITS FALSE NEIGHBOUR. Refute it at one input. -/
def LawS3261CModelToldWrongFalsely : Prop := Claim7.holds Ybaf.pinned (.plain (OpenSpec.ofChange lawS3261CModelWrong)) lawS3261CModelCard

/-- THE TOLD AND TIED CARD OF 'dhcpv4.LawS3261CBuilt'. -/
def lawS3261CBuiltCard : Claim7 := { stood := { row := lawS3261CBuiltRow, standIns := [], harness := (true, "4020124907e43c1401389a35e3e4890a744639ce621476104e662b80b66e5dca"), looks := true }, told := true, laidByText := true, laidKinds := [.data], laidTests := true, laidLooks := .later, goes := false }
def LawS3261CBuiltToldSaid : Prop := Claim7.holds Ybaf.pinned (.plain (OpenSpec.ofChange lawS3261CBuiltSpec)) lawS3261CBuiltCard
/-- ITS FALSE NEIGHBOUR. Refute it at one input. -/
def LawS3261CBuiltToldWrongFalsely : Prop := Claim7.holds Ybaf.pinned (.plain (OpenSpec.ofChange lawS3261CBuiltWrong)) lawS3261CBuiltCard
end Rows
end Go.Proofs.YbulkbomyFmt
