/-
  No cell of these rows narrows 'for every input' (looked for: loops, veiled, ifaces, maps, wideKeys, modest, calm, conditions, laid).
  DERIVED. THE GIVEN ROWS OF THIS SEAT. 6 by the template 'for every input the law returns true; each argument reads behind the call as it read before'; 0 by the template 'total and deterministic' (their statements: YbulkbikTotals.lean).
  GIVEN WITH THE SEED: the statements are not yours to turn. If you find one false, say at which input.
  Laid BY PROGRAM, IN A SANDBOX (cutbox-rows.mjs): the forced cells as the released guide's own fill.sh prints them over the translation bfab4d33720c5e7b… (all of the seat's roots in one cut). By AI agents, Wed Nov 11 2026. No macro, syntax, notation, axiom, sorry.
-/
import Derived.Test.YbulkbikChecked
import GoSem.Claim
import GoSem.ClaimJoined
import GoSem.ClaimMapViews
import Derived.JoinedTies
import Derived.KernelRfl
namespace Go.Proofs.Ybulkbik
/- THE CELL 'sum', in the pinned program and in every row, IS THE sha256 OF THE DUMP (.gsa) THAT YbulkbikProg.lean LOADS. Nothing in Lean hashes anything: it is a label: what it is worth is what the hold of that sum in a sandbox is worth. -/
noncomputable def Yba.pinned : Pinned := { name := "ybulkbik", sum := "bfab4d33720c5e7bc5ad78225f95b5f4298423e8bffed8dbd2a64af055af2160", checked := Yba.checked }
namespace Rows
def none {H : Type} : Left H := { results := [], args := [] }

/-- 'analysis.LawS0114AEdges': WHATEVER THE INPUT: true; the input reads as it did. -/
def lawS0114AEdgesSpec : ChangeSpec := { name := "lawS0114AEdges", fn := fun _ => fun
  | [d1, d2] => { results := [.lit (.bool true)], args := [d1, d2] }
  | _ => none }
def lawS0114AEdgesRow : OpenClaim := { program := "ybulkbik", sum := "bfab4d33720c5e7bc5ad78225f95b5f4298423e8bffed8dbd2a64af055af2160", func := "example.com/schedulens/schedulens/pkg/analysis.LawS0114AEdges", spec := "lawS0114AEdges", unfollowed := true, recurses := true, apart := false }
def LawS0114AEdgesSaid : Prop := lawS0114AEdgesRow.holds Yba.pinned (OpenSpec.ofChange lawS0114AEdgesSpec)

/-- ITS FALSE NEIGHBOUR: 'it returns false'. Refute it at one input. -/
def lawS0114AEdgesWrong : ChangeSpec := { name := "lawS0114AEdges", fn := fun _ => fun
  | [d1, d2] => { results := [.lit (.bool false)], args := [d1, d2] }
  | _ => none }
def LawS0114AEdgesWrongFalsely : Prop := lawS0114AEdgesRow.holds Yba.pinned (OpenSpec.ofChange lawS0114AEdgesWrong)

/-- 'analysis.LawS0114AReach': WHATEVER THE INPUT: true; the input reads as it did. -/
def lawS0114AReachSpec : ChangeSpec := { name := "lawS0114AReach", fn := fun _ => fun
  | [d1, d2] => { results := [.lit (.bool true)], args := [d1, d2] }
  | _ => none }
def lawS0114AReachRow : OpenClaim := { program := "ybulkbik", sum := "bfab4d33720c5e7bc5ad78225f95b5f4298423e8bffed8dbd2a64af055af2160", func := "example.com/schedulens/schedulens/pkg/analysis.LawS0114AReach", spec := "lawS0114AReach", unfollowed := true, recurses := true, apart := false }
def LawS0114AReachSaid : Prop := lawS0114AReachRow.holds Yba.pinned (OpenSpec.ofChange lawS0114AReachSpec)

/-- ITS FALSE NEIGHBOUR: 'it returns false'. Refute it at one input. -/
def lawS0114AReachWrong : ChangeSpec := { name := "lawS0114AReach", fn := fun _ => fun
  | [d1, d2] => { results := [.lit (.bool false)], args := [d1, d2] }
  | _ => none }
def LawS0114AReachWrongFalsely : Prop := lawS0114AReachRow.holds Yba.pinned (OpenSpec.ofChange lawS0114AReachWrong)

/-- 'analysis.LawS0114BMatchesModel': WHATEVER THE INPUT: true; the input reads as it did. -/
def lawS0114BMatchesModelSpec : ChangeSpec := { name := "lawS0114BMatchesModel", fn := fun _ => fun
  | [d] => { results := [.lit (.bool true)], args := [d] }
  | _ => none }
def lawS0114BMatchesModelRow : OpenClaim := { program := "ybulkbik", sum := "bfab4d33720c5e7bc5ad78225f95b5f4298423e8bffed8dbd2a64af055af2160", func := "example.com/schedulens/schedulens/pkg/analysis.LawS0114BMatchesModel", spec := "lawS0114BMatchesModel", unfollowed := true, recurses := true, apart := false }
def LawS0114BMatchesModelSaid : Prop := lawS0114BMatchesModelRow.holds Yba.pinned (OpenSpec.ofChange lawS0114BMatchesModelSpec)

/-- ITS FALSE NEIGHBOUR: 'it returns false'. Refute it at one input. -/
def lawS0114BMatchesModelWrong : ChangeSpec := { name := "lawS0114BMatchesModel", fn := fun _ => fun
  | [d] => { results := [.lit (.bool false)], args := [d] }
  | _ => none }
def LawS0114BMatchesModelWrongFalsely : Prop := lawS0114BMatchesModelRow.holds Yba.pinned (OpenSpec.ofChange lawS0114BMatchesModelWrong)

/-- 'analysis.LawS0114BStopsEarly': WHATEVER THE INPUT: true; the input reads as it did. -/
def lawS0114BStopsEarlySpec : ChangeSpec := { name := "lawS0114BStopsEarly", fn := fun _ => fun
  | [d1, d2] => { results := [.lit (.bool true)], args := [d1, d2] }
  | _ => none }
def lawS0114BStopsEarlyRow : OpenClaim := { program := "ybulkbik", sum := "bfab4d33720c5e7bc5ad78225f95b5f4298423e8bffed8dbd2a64af055af2160", func := "example.com/schedulens/schedulens/pkg/analysis.LawS0114BStopsEarly", spec := "lawS0114BStopsEarly", unfollowed := true, recurses := true, apart := false }
def LawS0114BStopsEarlySaid : Prop := lawS0114BStopsEarlyRow.holds Yba.pinned (OpenSpec.ofChange lawS0114BStopsEarlySpec)

/-- ITS FALSE NEIGHBOUR: 'it returns false'. Refute it at one input. -/
def lawS0114BStopsEarlyWrong : ChangeSpec := { name := "lawS0114BStopsEarly", fn := fun _ => fun
  | [d1, d2] => { results := [.lit (.bool false)], args := [d1, d2] }
  | _ => none }
def LawS0114BStopsEarlyWrongFalsely : Prop := lawS0114BStopsEarlyRow.holds Yba.pinned (OpenSpec.ofChange lawS0114BStopsEarlyWrong)

/-- 'analysis.LawS0114CNumbers': WHATEVER THE INPUT: true; the input reads as it did. -/
def lawS0114CNumbersSpec : ChangeSpec := { name := "lawS0114CNumbers", fn := fun _ => fun
  | [d] => { results := [.lit (.bool true)], args := [d] }
  | _ => none }
def lawS0114CNumbersRow : OpenClaim := { program := "ybulkbik", sum := "bfab4d33720c5e7bc5ad78225f95b5f4298423e8bffed8dbd2a64af055af2160", func := "example.com/schedulens/schedulens/pkg/analysis.LawS0114CNumbers", spec := "lawS0114CNumbers", apart := false }
def LawS0114CNumbersSaid : Prop := lawS0114CNumbersRow.holds Yba.pinned (OpenSpec.ofChange lawS0114CNumbersSpec)

/-- ITS FALSE NEIGHBOUR: 'it returns false'. Refute it at one input. -/
def lawS0114CNumbersWrong : ChangeSpec := { name := "lawS0114CNumbers", fn := fun _ => fun
  | [d] => { results := [.lit (.bool false)], args := [d] }
  | _ => none }
def LawS0114CNumbersWrongFalsely : Prop := lawS0114CNumbersRow.holds Yba.pinned (OpenSpec.ofChange lawS0114CNumbersWrong)

/-- 'analysis.LawS0114CCached': WHATEVER THE INPUT: true; the input reads as it did. -/
def lawS0114CCachedSpec : ChangeSpec := { name := "lawS0114CCached", fn := fun _ => fun
  | [d1, d2, d3] => { results := [.lit (.bool true)], args := [d1, d2, d3] }
  | _ => none }
def lawS0114CCachedRow : OpenClaim := { program := "ybulkbik", sum := "bfab4d33720c5e7bc5ad78225f95b5f4298423e8bffed8dbd2a64af055af2160", func := "example.com/schedulens/schedulens/pkg/analysis.LawS0114CCached", spec := "lawS0114CCached", apart := false }
def LawS0114CCachedSaid : Prop := lawS0114CCachedRow.holds Yba.pinned (OpenSpec.ofChange lawS0114CCachedSpec)

/-- ITS FALSE NEIGHBOUR: 'it returns false'. Refute it at one input. -/
def lawS0114CCachedWrong : ChangeSpec := { name := "lawS0114CCached", fn := fun _ => fun
  | [d1, d2, d3] => { results := [.lit (.bool false)], args := [d1, d2, d3] }
  | _ => none }
def LawS0114CCachedWrongFalsely : Prop := lawS0114CCachedRow.holds Yba.pinned (OpenSpec.ofChange lawS0114CCachedWrong)

end Rows
end Go.Proofs.Ybulkbik
