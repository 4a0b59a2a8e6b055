/-
  NARROWER THAN 'FOR EVERY INPUT', by the rows' own cells (each row's printed sentence says how): LawS3261ARefuses: laid · LawS3261AShortStart: laid · LawS3261CModel: laid · LawS3261CBuilt: laid.
  DERIVED. THE GIVEN ROWS OF THIS SEAT. 4 by the template 'for every input the law returns true; each argument reads behind the call as it read before'; 0 by the template 'total and deterministic' (their statements: YbulkbomyFmtTotals.lean).
  GIVEN WITH THE SEED: the statements are not yours to turn. If you find one false, say at which input.
  Laid BY PROGRAM, IN A SANDBOX (cutbox-rows.mjs): the forced cells as the released guide's own fill.sh prints them over the translation 1c66bed467d2d5d3… (all of the seat's roots in one cut). By AI agents, Wed Nov 11 2026. No macro, syntax, notation, axiom, sorry.
-/
import Derived.Test.YbulkbomyFmtChecked
import GoSem.Claim
import GoSem.ClaimJoined
import GoSem.ClaimMapViews
import Derived.JoinedTies
import Derived.KernelRfl
namespace Go.Proofs.YbulkbomyFmt
/- THE CELL 'sum', in the pinned program and in every row, IS THE sha256 OF THE DUMP (.gsa) THAT YbulkbomyFmtProg.lean LOADS. Nothing in Lean hashes anything: it is a label: what it is worth is what the hold of that sum in a sandbox is worth. -/
noncomputable def Ybaf.pinned : Pinned := { name := "ybulkbomyfmt", sum := "1c66bed467d2d5d3075031ea0b67eea208f371ca23aba943c72ae9960f9d0808", checked := Ybaf.checked }
namespace Rows
def none {H : Type} : Left H := { results := [], args := [] }

/- WHAT THE LISTED PACKAGE-LEVEL VARIABLES READ AS WHEN THE CALL BEGINS. Each datum BY PROGRAM (the guide's laid-datum.mjs) off the statement by which the dump's own 'gosem.cut.vars' lays the variable. In a bare row this is a premise. The card (YbulkbomyFmtCards.lean) ties it to the program's text. -/
def laid_io_EOF {H : Type} : DataW H := .iface "*errors.errorString" (.ptr (.agg [.lit (.string [69, 79, 70])]))
def laid_example_com_lease_logic_lease_logic_pkg_dhcpv4_subOptions {H : Type} : DataW H := .agg [.lit (.bool false), .lit (.string [115, 117, 98, 45, 111, 112, 116, 105, 111, 110])]

/-- 'capture.LawS3261ARefuses': WHATEVER THE INPUT: true; the input reads as it did. -/
def lawS3261ARefusesSpec : ChangeSpec := { name := "lawS3261ARefuses", fn := fun _ => fun
  | [d] => { results := [.lit (.bool true)], args := [d] }
  | _ => none }
def lawS3261ARefusesRow : OpenClaim := { program := "ybulkbomyfmt", sum := "1c66bed467d2d5d3075031ea0b67eea208f371ca23aba943c72ae9960f9d0808", func := "example.com/lease-logic/lease-logic/pkg/capture.LawS3261ARefuses", spec := "lawS3261ARefuses", stops := ["fmt.errorf", "fmt.Sprintf"], inPlace := ["fmt.errorf", "internal/reflectlite.TypeOf"], unfollowed := true, recurses := true, named := ["io.EOF"], apart := false, laid := [("io.EOF", laid_io_EOF)] }
/-- NO THEOREM (fmt's text is open here; it may be false): for the released tool's asking of the row's closed facts alone. THE STATEMENT IS 'LawS3261ARefusesToldSaid' (YbulkbomyFmtCards.lean). -/
def LawS3261ARefusesFormAsk : Prop := lawS3261ARefusesRow.holds Ybaf.pinned (OpenSpec.ofChange lawS3261ARefusesSpec)

/-- ITS FALSE NEIGHBOUR: 'it returns false'. Refute it at one input. -/
def lawS3261ARefusesWrong : ChangeSpec := { name := "lawS3261ARefuses", fn := fun _ => fun
  | [d] => { results := [.lit (.bool false)], args := [d] }
  | _ => none }
def LawS3261ARefusesWrongFormAsk : Prop := lawS3261ARefusesRow.holds Ybaf.pinned (OpenSpec.ofChange lawS3261ARefusesWrong)

/-- 'capture.LawS3261AShortStart': WHATEVER THE INPUT: true; the input reads as it did. -/
def lawS3261AShortStartSpec : ChangeSpec := { name := "lawS3261AShortStart", fn := fun _ => fun
  | [d1, d2, d3, d4] => { results := [.lit (.bool true)], args := [d1, d2, d3, d4] }
  | _ => none }
def lawS3261AShortStartRow : OpenClaim := { program := "ybulkbomyfmt", sum := "1c66bed467d2d5d3075031ea0b67eea208f371ca23aba943c72ae9960f9d0808", func := "example.com/lease-logic/lease-logic/pkg/capture.LawS3261AShortStart", spec := "lawS3261AShortStart", stops := ["fmt.errorf", "fmt.Sprintf"], inPlace := ["fmt.errorf", "internal/reflectlite.TypeOf"], unfollowed := true, recurses := true, named := ["io.EOF"], apart := false, laid := [("io.EOF", laid_io_EOF)] }
/-- NO THEOREM (fmt's text is open here; it may be false): for the released tool's asking of the row's closed facts alone. THE STATEMENT IS 'LawS3261AShortStartToldSaid' (YbulkbomyFmtCards.lean). -/
def LawS3261AShortStartFormAsk : Prop := lawS3261AShortStartRow.holds Ybaf.pinned (OpenSpec.ofChange lawS3261AShortStartSpec)

/-- ITS FALSE NEIGHBOUR: 'it returns false'. Refute it at one input. -/
def lawS3261AShortStartWrong : ChangeSpec := { name := "lawS3261AShortStart", fn := fun _ => fun
  | [d1, d2, d3, d4] => { results := [.lit (.bool false)], args := [d1, d2, d3, d4] }
  | _ => none }
def LawS3261AShortStartWrongFormAsk : Prop := lawS3261AShortStartRow.holds Ybaf.pinned (OpenSpec.ofChange lawS3261AShortStartWrong)

/-- 'dhcpv4.LawS3261CModel': WHATEVER THE INPUT: true; the input reads as it did. -/
def lawS3261CModelSpec : ChangeSpec := { name := "lawS3261CModel", vars := ["example.com/lease-logic/lease-logic/pkg/dhcpv4.subOptions"], fn := fun _ => fun
  | [d, g1] => { results := [.lit (.bool true)], args := [d], vars := [g1] }
  | _ => none }
def lawS3261CModelRow : OpenClaim := { program := "ybulkbomyfmt", sum := "1c66bed467d2d5d3075031ea0b67eea208f371ca23aba943c72ae9960f9d0808", func := "example.com/lease-logic/lease-logic/pkg/dhcpv4.LawS3261CModel", spec := "lawS3261CModel", stops := ["fmt.errorf", "fmt.Sprintf"], inPlace := ["fmt.Sprintf"], unfollowed := true, recurses := true, named := ["example.com/lease-logic/lease-logic/pkg/dhcpv4.subOptions"], apart := false, laid := [("example.com/lease-logic/lease-logic/pkg/dhcpv4.subOptions", laid_example_com_lease_logic_lease_logic_pkg_dhcpv4_subOptions)] }
/-- NO THEOREM (fmt's text is open here; it may be false): for the released tool's asking of the row's closed facts alone. THE STATEMENT IS 'LawS3261CModelToldSaid' (YbulkbomyFmtCards.lean). -/
def LawS3261CModelFormAsk : Prop := lawS3261CModelRow.holds Ybaf.pinned (OpenSpec.ofChange lawS3261CModelSpec)

/-- ITS FALSE NEIGHBOUR: 'it returns false'. Refute it at one input. -/
def lawS3261CModelWrong : ChangeSpec := { name := "lawS3261CModel", vars := ["example.com/lease-logic/lease-logic/pkg/dhcpv4.subOptions"], fn := fun _ => fun
  | [d, g1] => { results := [.lit (.bool false)], args := [d], vars := [g1] }
  | _ => none }
def LawS3261CModelWrongFormAsk : Prop := lawS3261CModelRow.holds Ybaf.pinned (OpenSpec.ofChange lawS3261CModelWrong)

/-- 'dhcpv4.LawS3261CBuilt': WHATEVER THE INPUT: true; the input reads as it did. -/
def lawS3261CBuiltSpec : ChangeSpec := { name := "lawS3261CBuilt", vars := ["example.com/lease-logic/lease-logic/pkg/dhcpv4.subOptions"], fn := fun _ => fun
  | [d1, d2, d3, g1] => { results := [.lit (.bool true)], args := [d1, d2, d3], vars := [g1] }
  | _ => none }
def lawS3261CBuiltRow : OpenClaim := { program := "ybulkbomyfmt", sum := "1c66bed467d2d5d3075031ea0b67eea208f371ca23aba943c72ae9960f9d0808", func := "example.com/lease-logic/lease-logic/pkg/dhcpv4.LawS3261CBuilt", spec := "lawS3261CBuilt", stops := ["fmt.errorf", "fmt.Sprintf"], inPlace := ["fmt.Sprintf"], unfollowed := true, recurses := true, named := ["example.com/lease-logic/lease-logic/pkg/dhcpv4.subOptions"], apart := false, laid := [("example.com/lease-logic/lease-logic/pkg/dhcpv4.subOptions", laid_example_com_lease_logic_lease_logic_pkg_dhcpv4_subOptions)] }
/-- NO THEOREM (fmt's text is open here; it may be false): for the released tool's asking of the row's closed facts alone. THE STATEMENT IS 'LawS3261CBuiltToldSaid' (YbulkbomyFmtCards.lean). -/
def LawS3261CBuiltFormAsk : Prop := lawS3261CBuiltRow.holds Ybaf.pinned (OpenSpec.ofChange lawS3261CBuiltSpec)

/-- ITS FALSE NEIGHBOUR: 'it returns false'. Refute it at one input. -/
def lawS3261CBuiltWrong : ChangeSpec := { name := "lawS3261CBuilt", vars := ["example.com/lease-logic/lease-logic/pkg/dhcpv4.subOptions"], fn := fun _ => fun
  | [d1, d2, d3, g1] => { results := [.lit (.bool false)], args := [d1, d2, d3], vars := [g1] }
  | _ => none }
def LawS3261CBuiltWrongFormAsk : Prop := lawS3261CBuiltRow.holds Ybaf.pinned (OpenSpec.ofChange lawS3261CBuiltWrong)

end Rows
end Go.Proofs.YbulkbomyFmt
