/-
  No cell of these rows narrows 'for every input' (looked for: loops, veiled, ifaces, maps, wideKeys, modest, calm, conditions, laid).
  DERIVED. THE GIVEN ROWS OF THIS SEAT. 5 by the template 'for every input the law returns true; each argument reads behind the call as it read before'; 0 by the template 'total and deterministic' (their statements: YbulkahlaTotals.lean).
  GIVEN WITH THE SEED: the statements are not yours to turn. If you find one false, say at which input.
  Laid BY PROGRAM, IN A SANDBOX (cutbox-rows.mjs): the forced cells as the released guide's own fill.sh prints them over the translation 5918dc74a77ddde8… (all of the seat's roots in one cut). By AI agents, Wed Nov 11 2026. No macro, syntax, notation, axiom, sorry.
-/
import Derived.Test.YbulkahlaChecked
import GoSem.Claim
import GoSem.ClaimJoined
import GoSem.ClaimMapViews
import Derived.JoinedTies
import Derived.KernelRfl
namespace Go.Proofs.Ybulkahla
/- THE CELL 'sum', in the pinned program and in every row, IS THE sha256 OF THE DUMP (.gsa) THAT YbulkahlaProg.lean LOADS. Nothing in Lean hashes anything: it is a label: what it is worth is what the hold of that sum in a sandbox is worth. -/
noncomputable def Yba.pinned : Pinned := { name := "ybulkahla", sum := "5918dc74a77ddde8fa858111e1502cf37b466b7653401215fce7d2ada8058ae8", checked := Yba.checked }
namespace Rows
def none {H : Type} : Left H := { results := [], args := [] }

/-- 'control.LawS1664AAgrees': WHATEVER THE INPUT: true; the input reads as it did. -/
def lawS1664AAgreesSpec : ChangeSpec := { name := "lawS1664AAgrees", fn := fun _ => fun
  | [d1, d2, d3, d4] => { results := [.lit (.bool true)], args := [d1, d2, d3, d4] }
  | _ => none }
def lawS1664AAgreesRow : OpenClaim := { program := "ybulkahla", sum := "5918dc74a77ddde8fa858111e1502cf37b466b7653401215fce7d2ada8058ae8", func := "example.com/pathweight/pathweight/internal/control.LawS1664AAgrees", spec := "lawS1664AAgrees", inPlace := ["math.Float64frombits", "math.Float64bits", "math.sqrt", "math.archHypot"], unfollowed := true, recurses := true, apart := false }
def LawS1664AAgreesSaid : Prop := lawS1664AAgreesRow.holds Yba.pinned (OpenSpec.ofChange lawS1664AAgreesSpec)

/-- ITS FALSE NEIGHBOUR: 'it returns false'. Refute it at one input. -/
def lawS1664AAgreesWrong : ChangeSpec := { name := "lawS1664AAgrees", fn := fun _ => fun
  | [d1, d2, d3, d4] => { results := [.lit (.bool false)], args := [d1, d2, d3, d4] }
  | _ => none }
def LawS1664AAgreesWrongFalsely : Prop := lawS1664AAgreesRow.holds Yba.pinned (OpenSpec.ofChange lawS1664AAgreesWrong)

/-- 'control.LawS1664AInfCases': WHATEVER THE INPUT: true; the input reads as it did. -/
def lawS1664AInfCasesSpec : ChangeSpec := { name := "lawS1664AInfCases", fn := fun _ => fun
  | [d1, d2, d3, d4] => { results := [.lit (.bool true)], args := [d1, d2, d3, d4] }
  | _ => none }
def lawS1664AInfCasesRow : OpenClaim := { program := "ybulkahla", sum := "5918dc74a77ddde8fa858111e1502cf37b466b7653401215fce7d2ada8058ae8", func := "example.com/pathweight/pathweight/internal/control.LawS1664AInfCases", spec := "lawS1664AInfCases", inPlace := ["math.Float64frombits", "math.Float64bits", "math.sqrt", "math.archHypot"], unfollowed := true, recurses := true, apart := false }
def LawS1664AInfCasesSaid : Prop := lawS1664AInfCasesRow.holds Yba.pinned (OpenSpec.ofChange lawS1664AInfCasesSpec)

/-- ITS FALSE NEIGHBOUR: 'it returns false'. Refute it at one input. -/
def lawS1664AInfCasesWrong : ChangeSpec := { name := "lawS1664AInfCases", fn := fun _ => fun
  | [d1, d2, d3, d4] => { results := [.lit (.bool false)], args := [d1, d2, d3, d4] }
  | _ => none }
def LawS1664AInfCasesWrongFalsely : Prop := lawS1664AInfCasesRow.holds Yba.pinned (OpenSpec.ofChange lawS1664AInfCasesWrong)

/-- 'control.LawS1664BFresh': WHATEVER THE INPUT: true; the input reads as it did. -/
def lawS1664BFreshSpec : ChangeSpec := { name := "lawS1664BFresh", fn := fun _ => fun
  | [d] => { results := [.lit (.bool true)], args := [d] }
  | _ => none }
def lawS1664BFreshRow : OpenClaim := { program := "ybulkahla", sum := "5918dc74a77ddde8fa858111e1502cf37b466b7653401215fce7d2ada8058ae8", func := "example.com/pathweight/pathweight/internal/control.LawS1664BFresh", spec := "lawS1664BFresh", inPlace := ["math.Float64frombits"], unfollowed := true, recurses := true, apart := false }
def LawS1664BFreshSaid : Prop := lawS1664BFreshRow.holds Yba.pinned (OpenSpec.ofChange lawS1664BFreshSpec)

/-- ITS FALSE NEIGHBOUR: 'it returns false'. Refute it at one input. -/
def lawS1664BFreshWrong : ChangeSpec := { name := "lawS1664BFresh", fn := fun _ => fun
  | [d] => { results := [.lit (.bool false)], args := [d] }
  | _ => none }
def LawS1664BFreshWrongFalsely : Prop := lawS1664BFreshRow.holds Yba.pinned (OpenSpec.ofChange lawS1664BFreshWrong)

/-- 'control.LawS1664BCached': WHATEVER THE INPUT: true; the input reads as it did. -/
def lawS1664BCachedSpec : ChangeSpec := { name := "lawS1664BCached", fn := fun _ => fun
  | [d1, d2, d3, d4, d5] => { results := [.lit (.bool true)], args := [d1, d2, d3, d4, d5] }
  | _ => none }
def lawS1664BCachedRow : OpenClaim := { program := "ybulkahla", sum := "5918dc74a77ddde8fa858111e1502cf37b466b7653401215fce7d2ada8058ae8", func := "example.com/pathweight/pathweight/internal/control.LawS1664BCached", spec := "lawS1664BCached", inPlace := ["math.Float64frombits"], unfollowed := true, recurses := true, apart := false }
def LawS1664BCachedSaid : Prop := lawS1664BCachedRow.holds Yba.pinned (OpenSpec.ofChange lawS1664BCachedSpec)

/-- ITS FALSE NEIGHBOUR: 'it returns false'. Refute it at one input. -/
def lawS1664BCachedWrong : ChangeSpec := { name := "lawS1664BCached", fn := fun _ => fun
  | [d1, d2, d3, d4, d5] => { results := [.lit (.bool false)], args := [d1, d2, d3, d4, d5] }
  | _ => none }
def LawS1664BCachedWrongFalsely : Prop := lawS1664BCachedRow.holds Yba.pinned (OpenSpec.ofChange lawS1664BCachedWrong)

/-- 'solver.LawS1664CDrop': WHATEVER THE INPUT: true; the input reads as it did. -/
def lawS1664CDropSpec : ChangeSpec := { name := "lawS1664CDrop", fn := fun _ => fun
  | [d1, d2, d3] => { results := [.lit (.bool true)], args := [d1, d2, d3] }
  | _ => none }
def lawS1664CDropRow : OpenClaim := { program := "ybulkahla", sum := "5918dc74a77ddde8fa858111e1502cf37b466b7653401215fce7d2ada8058ae8", func := "example.com/pathweight/pathweight/internal/solver.LawS1664CDrop", spec := "lawS1664CDrop", inPlace := ["math.Float64frombits"], apart := false }
def LawS1664CDropSaid : Prop := lawS1664CDropRow.holds Yba.pinned (OpenSpec.ofChange lawS1664CDropSpec)

/-- ITS FALSE NEIGHBOUR: 'it returns false'. Refute it at one input. -/
def lawS1664CDropWrong : ChangeSpec := { name := "lawS1664CDrop", fn := fun _ => fun
  | [d1, d2, d3] => { results := [.lit (.bool false)], args := [d1, d2, d3] }
  | _ => none }
def LawS1664CDropWrongFalsely : Prop := lawS1664CDropRow.holds Yba.pinned (OpenSpec.ofChange lawS1664CDropWrong)

end Rows
end Go.Proofs.Ybulkahla
