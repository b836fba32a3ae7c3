/-
  No cell of these rows narrows 'for every input' (looked for: loops, veiled, ifaces, maps, wideKeys, modest, calm, conditions, laid).
  DERIVED. THE GIVEN ROWS OF THIS SEAT. 2 by the template 'for every input the law returns true; each argument reads behind the call as it read before'; 0 by the template 'total and deterministic' (their statements: YbulkahneTotals.lean).
  GIVEN WITH THE SEED: the statements are not yours to turn. If you find one false, say at which input.
  Laid BY PROGRAM, IN A SANDBOX (cutbox-rows.mjs): the forced cells as the released guide's own fill.sh prints them over the translation d67f2729506b7d05… (all of the seat's roots in one cut). By AI agents, Wed Nov 11 2026. No macro, syntax, notation, axiom, sorry.
-/
import Derived.Test.YbulkahneChecked
import GoSem.Claim
import GoSem.ClaimJoined
import GoSem.ClaimMapViews
import Derived.JoinedTies
import Derived.KernelRfl
namespace Go.Proofs.Ybulkahne
/- THE CELL 'sum', in the pinned program and in every row, IS THE sha256 OF THE DUMP (.gsa) THAT YbulkahneProg.lean LOADS. Nothing in Lean hashes anything: it is a label: what it is worth is what the hold of that sum in a sandbox is worth. -/
noncomputable def Yba.pinned : Pinned := { name := "ybulkahne", sum := "d67f2729506b7d0504d4ee59a38b4abada39e3b2dcd603fce35aa59bb882eacb", checked := Yba.checked }
namespace Rows
def none {H : Type} : Left H := { results := [], args := [] }

/-- 'ini.LawS1668BAll': WHATEVER THE INPUT: true; the input reads as it did. -/
def lawS1668BAllSpec : ChangeSpec := { name := "lawS1668BAll", fn := fun _ => fun
  | [d1, d2, d3, d4] => { results := [.lit (.bool true)], args := [d1, d2, d3, d4] }
  | _ => none }
def lawS1668BAllRow : OpenClaim := { program := "ybulkahne", sum := "d67f2729506b7d0504d4ee59a38b4abada39e3b2dcd603fce35aa59bb882eacb", func := "example.com/tessera/tessera/ini.LawS1668BAll", spec := "lawS1668BAll", inPlace := ["internal/abi.NoEscape", "internal/bytealg.MakeNoZero"], unfollowed := true, recurses := true, apart := false }
def LawS1668BAllSaid : Prop := lawS1668BAllRow.holds Yba.pinned (OpenSpec.ofChange lawS1668BAllSpec)

/-- ITS FALSE NEIGHBOUR: 'it returns false'. Refute it at one input. -/
def lawS1668BAllWrong : ChangeSpec := { name := "lawS1668BAll", fn := fun _ => fun
  | [d1, d2, d3, d4] => { results := [.lit (.bool false)], args := [d1, d2, d3, d4] }
  | _ => none }
def LawS1668BAllWrongFalsely : Prop := lawS1668BAllRow.holds Yba.pinned (OpenSpec.ofChange lawS1668BAllWrong)

/-- 'ini.LawS1668BStop': WHATEVER THE INPUT: true; the input reads as it did. -/
def lawS1668BStopSpec : ChangeSpec := { name := "lawS1668BStop", fn := fun _ => fun
  | [d1, d2, d3, d4, d5] => { results := [.lit (.bool true)], args := [d1, d2, d3, d4, d5] }
  | _ => none }
def lawS1668BStopRow : OpenClaim := { program := "ybulkahne", sum := "d67f2729506b7d0504d4ee59a38b4abada39e3b2dcd603fce35aa59bb882eacb", func := "example.com/tessera/tessera/ini.LawS1668BStop", spec := "lawS1668BStop", inPlace := ["internal/abi.NoEscape", "internal/bytealg.MakeNoZero"], unfollowed := true, recurses := true, apart := false }
def LawS1668BStopSaid : Prop := lawS1668BStopRow.holds Yba.pinned (OpenSpec.ofChange lawS1668BStopSpec)

/-- ITS FALSE NEIGHBOUR: 'it returns false'. Refute it at one input. -/
def lawS1668BStopWrong : ChangeSpec := { name := "lawS1668BStop", fn := fun _ => fun
  | [d1, d2, d3, d4, d5] => { results := [.lit (.bool false)], args := [d1, d2, d3, d4, d5] }
  | _ => none }
def LawS1668BStopWrongFalsely : Prop := lawS1668BStopRow.holds Yba.pinned (OpenSpec.ofChange lawS1668BStopWrong)

end Rows
end Go.Proofs.Ybulkahne
