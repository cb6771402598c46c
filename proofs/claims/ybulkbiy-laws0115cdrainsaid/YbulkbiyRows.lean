/-
  No cell of these rows narrows 'for every input' (looked for: loops, veiled, ifaces, maps, wideKeys, modest, calm, conditions, laid).
  DERIVED. THE GIVEN ROWS OF THIS SEAT. 2 by the template 'for every input the law returns true; each argument reads behind the call as it read before'; 0 by the template 'total and deterministic' (their statements: YbulkbiyTotals.lean).
  GIVEN WITH THE SEED: the statements are not yours to turn. If you find one false, say at which input.
  Laid BY PROGRAM, IN A SANDBOX (cutbox-rows.mjs): the forced cells as the released guide's own fill.sh prints them over the translation 41799abf797944dc… (all of the seat's roots in one cut). By AI agents, Wed Nov 11 2026. No macro, syntax, notation, axiom, sorry.
-/
import Derived.Test.YbulkbiyChecked
import GoSem.Claim
import GoSem.ClaimJoined
import GoSem.ClaimMapViews
import Derived.JoinedTies
import Derived.KernelRfl
namespace Go.Proofs.Ybulkbiy
/- THE CELL 'sum', in the pinned program and in every row, IS THE sha256 OF THE DUMP (.gsa) THAT YbulkbiyProg.lean LOADS. Nothing in Lean hashes anything: it is a label: what it is worth is what the hold of that sum in a sandbox is worth. -/
noncomputable def Yba.pinned : Pinned := { name := "ybulkbiy", sum := "41799abf797944dc859e75bbd83df6a79316c96f61a388ac708a1d58772985a4", checked := Yba.checked }
namespace Rows
def none {H : Type} : Left H := { results := [], args := [] }

/-- 'ordered.LawS0115CRemoveOne': WHATEVER THE INPUT: true; the input reads as it did. -/
def lawS0115CRemoveOneSpec : ChangeSpec := { name := "lawS0115CRemoveOne", fn := fun _ => fun
  | [d1, d2, d3, d4] => { results := [.lit (.bool true)], args := [d1, d2, d3, d4] }
  | _ => none }
def lawS0115CRemoveOneRow : OpenClaim := { program := "ybulkbiy", sum := "41799abf797944dc859e75bbd83df6a79316c96f61a388ac708a1d58772985a4", func := "example.com/meander/meander/internal/ordered.LawS0115CRemoveOne", spec := "lawS0115CRemoveOne", unfollowed := true, recurses := true, apart := false }
def LawS0115CRemoveOneSaid : Prop := lawS0115CRemoveOneRow.holds Yba.pinned (OpenSpec.ofChange lawS0115CRemoveOneSpec)

/-- ITS FALSE NEIGHBOUR: 'it returns false'. Refute it at one input. -/
def lawS0115CRemoveOneWrong : ChangeSpec := { name := "lawS0115CRemoveOne", fn := fun _ => fun
  | [d1, d2, d3, d4] => { results := [.lit (.bool false)], args := [d1, d2, d3, d4] }
  | _ => none }
def LawS0115CRemoveOneWrongFalsely : Prop := lawS0115CRemoveOneRow.holds Yba.pinned (OpenSpec.ofChange lawS0115CRemoveOneWrong)

/-- 'ordered.LawS0115CDrain': WHATEVER THE INPUT: true; the input reads as it did. -/
def lawS0115CDrainSpec : ChangeSpec := { name := "lawS0115CDrain", fn := fun _ => fun
  | [d1, d2, d3] => { results := [.lit (.bool true)], args := [d1, d2, d3] }
  | _ => none }
def lawS0115CDrainRow : OpenClaim := { program := "ybulkbiy", sum := "41799abf797944dc859e75bbd83df6a79316c96f61a388ac708a1d58772985a4", func := "example.com/meander/meander/internal/ordered.LawS0115CDrain", spec := "lawS0115CDrain", unfollowed := true, recurses := true, apart := false }
def LawS0115CDrainSaid : Prop := lawS0115CDrainRow.holds Yba.pinned (OpenSpec.ofChange lawS0115CDrainSpec)

/-- ITS FALSE NEIGHBOUR: 'it returns false'. Refute it at one input. -/
def lawS0115CDrainWrong : ChangeSpec := { name := "lawS0115CDrain", fn := fun _ => fun
  | [d1, d2, d3] => { results := [.lit (.bool false)], args := [d1, d2, d3] }
  | _ => none }
def LawS0115CDrainWrongFalsely : Prop := lawS0115CDrainRow.holds Yba.pinned (OpenSpec.ofChange lawS0115CDrainWrong)

end Rows
end Go.Proofs.Ybulkbiy
