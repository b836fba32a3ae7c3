/-
  NARROWER THAN 'FOR EVERY INPUT', by the rows' own cells (each row's printed sentence says how): LawS1675AWhole: ifaces, laid · LawS1675AResume: ifaces, laid.
  DERIVED. THE GIVEN ROWS OF THIS SEAT. 4 by the template 'for every input the law returns true; each argument reads behind the call as it read before'; 0 by the template 'total and deterministic' (their statements: YbulkahqyFmtTotals.lean).
  GIVEN WITH THE SEED: the statements are not yours to turn. If you find one false, say at which input.
  Laid BY PROGRAM, IN A SANDBOX (cutbox-rows.mjs): the forced cells as the released guide's own fill.sh prints them over the translation bf95ce82985e1e29… (all of the seat's roots in one cut). By AI agents, Wed Nov 11 2026. No macro, syntax, notation, axiom, sorry.
-/
import Derived.Test.YbulkahqyFmtChecked
import GoSem.Claim
import GoSem.ClaimJoined
import GoSem.ClaimMapViews
import Derived.JoinedTies
import Derived.KernelRfl
namespace Go.Proofs.YbulkahqyFmt
/- THE CELL 'sum', in the pinned program and in every row, IS THE sha256 OF THE DUMP (.gsa) THAT YbulkahqyFmtProg.lean LOADS. Nothing in Lean hashes anything: it is a label: what it is worth is what the hold of that sum in a sandbox is worth. -/
noncomputable def Ybaf.pinned : Pinned := { name := "ybulkahqyfmt", sum := "bf95ce82985e1e29b717b21cb1ebb4ad771e81ba044d2709f3198faeac383257", checked := Ybaf.checked }
namespace Rows
def none {H : Type} : Left H := { results := [], args := [] }

/- WHAT THE LISTED PACKAGE-LEVEL VARIABLES READ AS WHEN THE CALL BEGINS. Each datum BY PROGRAM (the guide's laid-datum.mjs) off the statement by which the dump's own 'gosem.cut.vars' lays the variable. In a bare row this is a premise. The card (YbulkahqyFmtCards.lean) ties it to the program's text. -/
def laid_example_com_veilroute_veilroute_pkg_clienthello_ErrNotClientHello {H : Type} : DataW H := .iface "*errors.errorString" (.ptr (.agg [.lit (.string [110, 111, 116, 32, 97, 32, 84, 76, 83, 32, 67, 108, 105, 101, 110, 116, 72, 101, 108, 108, 111])]))
def laid_example_com_veilroute_veilroute_pkg_clienthello_ErrTooLong {H : Type} : DataW H := .iface "*errors.errorString" (.ptr (.agg [.lit (.string [108, 111, 110, 103, 101, 114, 32, 116, 104, 97, 110, 32, 84, 76, 83, 32, 97, 108, 108, 111, 119, 115])]))
def laid_example_com_veilroute_veilroute_pkg_clienthello_legacyFields {H : Type} : DataW H := .agg [.agg [.lit (.string [115, 101, 115, 115, 105, 111, 110, 32, 105, 100]), .lit (.int .i64 1), .lit (.int .i64 0), .lit (.int .i64 32), .lit (.int .i64 1)], .agg [.lit (.string [99, 105, 112, 104, 101, 114, 32, 115, 117, 105, 116, 101, 115]), .lit (.int .i64 2), .lit (.int .i64 2), .lit (.int .i64 65534), .lit (.int .i64 2)], .agg [.lit (.string [99, 111, 109, 112, 114, 101, 115, 115, 105, 111, 110, 32, 109, 101, 116, 104, 111, 100, 115]), .lit (.int .i64 1), .lit (.int .i64 1), .lit (.int .i64 255), .lit (.int .i64 1)]]

/-- 'clienthello.LawS1675AWhole': WHATEVER THE INPUT: true; the input reads as it did. -/
def lawS1675AWholeSpec : ChangeSpec := { name := "lawS1675AWhole", vars := ["example.com/veilroute/veilroute/pkg/clienthello.ErrNotClientHello", "example.com/veilroute/veilroute/pkg/clienthello.ErrTooLong", "example.com/veilroute/veilroute/pkg/clienthello.legacyFields"], fn := fun _ => fun
  | [d1, d2, d3, d4, g1, g2, g3] => { results := [.lit (.bool true)], args := [d1, d2, d3, d4], vars := [g1, g2, g3] }
  | _ => none }
def lawS1675AWholeRow : OpenClaim := { program := "ybulkahqyfmt", sum := "bf95ce82985e1e29b717b21cb1ebb4ad771e81ba044d2709f3198faeac383257", func := "example.com/veilroute/veilroute/pkg/clienthello.LawS1675AWhole", spec := "lawS1675AWhole", stops := ["fmt.errorf"], inPlace := ["fmt.errorf"], named := ["example.com/veilroute/veilroute/pkg/clienthello.ErrNotClientHello", "example.com/veilroute/veilroute/pkg/clienthello.ErrTooLong", "example.com/veilroute/veilroute/pkg/clienthello.legacyFields"], ifaces := true, apart := false, laid := [("example.com/veilroute/veilroute/pkg/clienthello.ErrNotClientHello", laid_example_com_veilroute_veilroute_pkg_clienthello_ErrNotClientHello), ("example.com/veilroute/veilroute/pkg/clienthello.ErrTooLong", laid_example_com_veilroute_veilroute_pkg_clienthello_ErrTooLong), ("example.com/veilroute/veilroute/pkg/clienthello.legacyFields", laid_example_com_veilroute_veilroute_pkg_clienthello_legacyFields)] }
/-- NO THEOREM (fmt's text is open here; it may be false): for the released tool's asking of the row's closed facts alone. THE STATEMENT IS 'LawS1675AWholeToldSaid' (YbulkahqyFmtCards.lean). -/
def LawS1675AWholeFormAsk : Prop := lawS1675AWholeRow.holds Ybaf.pinned (OpenSpec.ofChange lawS1675AWholeSpec)

/-- ITS FALSE NEIGHBOUR: 'it returns false'. Refute it at one input. -/
def lawS1675AWholeWrong : ChangeSpec := { name := "lawS1675AWhole", vars := ["example.com/veilroute/veilroute/pkg/clienthello.ErrNotClientHello", "example.com/veilroute/veilroute/pkg/clienthello.ErrTooLong", "example.com/veilroute/veilroute/pkg/clienthello.legacyFields"], fn := fun _ => fun
  | [d1, d2, d3, d4, g1, g2, g3] => { results := [.lit (.bool false)], args := [d1, d2, d3, d4], vars := [g1, g2, g3] }
  | _ => none }
def LawS1675AWholeWrongFormAsk : Prop := lawS1675AWholeRow.holds Ybaf.pinned (OpenSpec.ofChange lawS1675AWholeWrong)

/-- 'clienthello.LawS1675AResume': WHATEVER THE INPUT: true; the input reads as it did. -/
def lawS1675AResumeSpec : ChangeSpec := { name := "lawS1675AResume", vars := ["example.com/veilroute/veilroute/pkg/clienthello.ErrTooLong", "example.com/veilroute/veilroute/pkg/clienthello.ErrNotClientHello", "example.com/veilroute/veilroute/pkg/clienthello.legacyFields"], fn := fun _ => fun
  | [d1, d2, d3, d4, d5, g1, g2, g3] => { results := [.lit (.bool true)], args := [d1, d2, d3, d4, d5], vars := [g1, g2, g3] }
  | _ => none }
def lawS1675AResumeRow : OpenClaim := { program := "ybulkahqyfmt", sum := "bf95ce82985e1e29b717b21cb1ebb4ad771e81ba044d2709f3198faeac383257", func := "example.com/veilroute/veilroute/pkg/clienthello.LawS1675AResume", spec := "lawS1675AResume", stops := ["fmt.errorf"], inPlace := ["fmt.errorf", "internal/reflectlite.TypeOf"], unfollowed := true, recurses := true, named := ["example.com/veilroute/veilroute/pkg/clienthello.ErrTooLong", "example.com/veilroute/veilroute/pkg/clienthello.ErrNotClientHello", "example.com/veilroute/veilroute/pkg/clienthello.legacyFields"], ifaces := true, apart := false, laid := [("example.com/veilroute/veilroute/pkg/clienthello.ErrNotClientHello", laid_example_com_veilroute_veilroute_pkg_clienthello_ErrNotClientHello), ("example.com/veilroute/veilroute/pkg/clienthello.ErrTooLong", laid_example_com_veilroute_veilroute_pkg_clienthello_ErrTooLong), ("example.com/veilroute/veilroute/pkg/clienthello.legacyFields", laid_example_com_veilroute_veilroute_pkg_clienthello_legacyFields)] }
/-- NO THEOREM (fmt's text is open here; it may be false): for the released tool's asking of the row's closed facts alone. THE STATEMENT IS 'LawS1675AResumeToldSaid' (YbulkahqyFmtCards.lean). -/
def LawS1675AResumeFormAsk : Prop := lawS1675AResumeRow.holds Ybaf.pinned (OpenSpec.ofChange lawS1675AResumeSpec)

/-- ITS FALSE NEIGHBOUR: 'it returns false'. Refute it at one input. -/
def lawS1675AResumeWrong : ChangeSpec := { name := "lawS1675AResume", vars := ["example.com/veilroute/veilroute/pkg/clienthello.ErrTooLong", "example.com/veilroute/veilroute/pkg/clienthello.ErrNotClientHello", "example.com/veilroute/veilroute/pkg/clienthello.legacyFields"], fn := fun _ => fun
  | [d1, d2, d3, d4, d5, g1, g2, g3] => { results := [.lit (.bool false)], args := [d1, d2, d3, d4, d5], vars := [g1, g2, g3] }
  | _ => none }
def LawS1675AResumeWrongFormAsk : Prop := lawS1675AResumeRow.holds Ybaf.pinned (OpenSpec.ofChange lawS1675AResumeWrong)

/-- 'routes.LawS1675CAccepts': WHATEVER THE INPUT: true; the input reads as it did. -/
def lawS1675CAcceptsSpec : ChangeSpec := { name := "lawS1675CAccepts", fn := fun _ => fun
  | [d] => { results := [.lit (.bool true)], args := [d] }
  | _ => none }
def lawS1675CAcceptsRow : OpenClaim := { program := "ybulkahqyfmt", sum := "bf95ce82985e1e29b717b21cb1ebb4ad771e81ba044d2709f3198faeac383257", func := "example.com/veilroute/veilroute/internal/routes.LawS1675CAccepts", spec := "lawS1675CAccepts", stops := ["fmt.errorf"], inPlace := ["fmt.errorf"], apart := false }
/-- NO THEOREM (fmt's text is open here; it may be false): for the released tool's asking of the row's closed facts alone. THE STATEMENT IS 'LawS1675CAcceptsToldSaid' (YbulkahqyFmtCards.lean). -/
def LawS1675CAcceptsFormAsk : Prop := lawS1675CAcceptsRow.holds Ybaf.pinned (OpenSpec.ofChange lawS1675CAcceptsSpec)

/-- ITS FALSE NEIGHBOUR: 'it returns false'. Refute it at one input. -/
def lawS1675CAcceptsWrong : ChangeSpec := { name := "lawS1675CAccepts", fn := fun _ => fun
  | [d] => { results := [.lit (.bool false)], args := [d] }
  | _ => none }
def LawS1675CAcceptsWrongFormAsk : Prop := lawS1675CAcceptsRow.holds Ybaf.pinned (OpenSpec.ofChange lawS1675CAcceptsWrong)

/-- 'routes.LawS1675CBuilt': WHATEVER THE INPUT: true; the input reads as it did. -/
def lawS1675CBuiltSpec : ChangeSpec := { name := "lawS1675CBuilt", fn := fun _ => fun
  | [d1, d2, d3] => { results := [.lit (.bool true)], args := [d1, d2, d3] }
  | _ => none }
def lawS1675CBuiltRow : OpenClaim := { program := "ybulkahqyfmt", sum := "bf95ce82985e1e29b717b21cb1ebb4ad771e81ba044d2709f3198faeac383257", func := "example.com/veilroute/veilroute/internal/routes.LawS1675CBuilt", spec := "lawS1675CBuilt", stops := ["fmt.errorf"], inPlace := ["fmt.errorf"], apart := false }
/-- NO THEOREM (fmt's text is open here; it may be false): for the released tool's asking of the row's closed facts alone. THE STATEMENT IS 'LawS1675CBuiltToldSaid' (YbulkahqyFmtCards.lean). -/
def LawS1675CBuiltFormAsk : Prop := lawS1675CBuiltRow.holds Ybaf.pinned (OpenSpec.ofChange lawS1675CBuiltSpec)

/-- ITS FALSE NEIGHBOUR: 'it returns false'. Refute it at one input. -/
def lawS1675CBuiltWrong : ChangeSpec := { name := "lawS1675CBuilt", fn := fun _ => fun
  | [d1, d2, d3] => { results := [.lit (.bool false)], args := [d1, d2, d3] }
  | _ => none }
def LawS1675CBuiltWrongFormAsk : Prop := lawS1675CBuiltRow.holds Ybaf.pinned (OpenSpec.ofChange lawS1675CBuiltWrong)

end Rows
end Go.Proofs.YbulkahqyFmt
