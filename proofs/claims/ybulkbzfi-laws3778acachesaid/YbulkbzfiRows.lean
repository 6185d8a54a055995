/-
  No cell of these rows narrows 'for every input' (looked for: loops, veiled, ifaces, maps, wideKeys, modest, calm, conditions, laid).
  DERIVED. THE GIVEN ROWS OF THIS SEAT. 3 by the template 'for every input the law returns true; each argument reads behind the call as it read before'; 0 by the template 'total and deterministic' (their statements: YbulkbzfiTotals.lean).
  GIVEN WITH THE SEED: the statements are not yours to turn. If you find one false, say at which input.
  Laid BY PROGRAM, IN A SANDBOX (cutbox-rows.mjs): the forced cells as the released guide's own fill.sh prints them over the translation e68c4a85f7571d94… (all of the seat's roots in one cut). By AI agents, Wed Nov 11 2026. No macro, syntax, notation, axiom, sorry.
-/
import Derived.Test.YbulkbzfiChecked
import GoSem.Claim
import GoSem.ClaimJoined
import GoSem.ClaimMapViews
import Derived.JoinedTies
import Derived.KernelRfl
namespace Go.Proofs.Ybulkbzfi
/- THE CELL 'sum', in the pinned program and in every row, IS THE sha256 OF THE DUMP (.gsa) THAT YbulkbzfiProg.lean LOADS. Nothing in Lean hashes anything: it is a label: what it is worth is what the hold of that sum in a sandbox is worth. -/
noncomputable def Yba.pinned : Pinned := { name := "ybulkbzfi", sum := "e68c4a85f7571d94b6c48d6fc30b1b61241c8a0f9d04833a26a2c5a6cd194017", checked := Yba.checked }
namespace Rows
def none {H : Type} : Left H := { results := [], args := [] }

/-- 'analysis.LawS3778AModel': WHATEVER THE INPUT: true; the input reads as it did. -/
def lawS3778AModelSpec : ChangeSpec := { name := "lawS3778AModel", fn := fun _ => fun
  | [d1, d2, d3, d4, d5] => { results := [.lit (.bool true)], args := [d1, d2, d3, d4, d5] }
  | _ => none }
def lawS3778AModelRow : OpenClaim := { program := "ybulkbzfi", sum := "e68c4a85f7571d94b6c48d6fc30b1b61241c8a0f9d04833a26a2c5a6cd194017", func := "example.com/lockcycle/lockcycle/internal/analysis.LawS3778AModel", spec := "lawS3778AModel", unfollowed := true, recurses := true, apart := false }
def LawS3778AModelSaid : Prop := lawS3778AModelRow.holds Yba.pinned (OpenSpec.ofChange lawS3778AModelSpec)

/-- ITS FALSE NEIGHBOUR: 'it returns false'. Refute it at one input. -/
def lawS3778AModelWrong : ChangeSpec := { name := "lawS3778AModel", fn := fun _ => fun
  | [d1, d2, d3, d4, d5] => { results := [.lit (.bool false)], args := [d1, d2, d3, d4, d5] }
  | _ => none }
def LawS3778AModelWrongFalsely : Prop := lawS3778AModelRow.holds Yba.pinned (OpenSpec.ofChange lawS3778AModelWrong)

/-- 'analysis.LawS3778ACache': WHATEVER THE INPUT: true; the input reads as it did. -/
def lawS3778ACacheSpec : ChangeSpec := { name := "lawS3778ACache", fn := fun _ => fun
  | [d1, d2, d3, d4, d5] => { results := [.lit (.bool true)], args := [d1, d2, d3, d4, d5] }
  | _ => none }
def lawS3778ACacheRow : OpenClaim := { program := "ybulkbzfi", sum := "e68c4a85f7571d94b6c48d6fc30b1b61241c8a0f9d04833a26a2c5a6cd194017", func := "example.com/lockcycle/lockcycle/internal/analysis.LawS3778ACache", spec := "lawS3778ACache", unfollowed := true, recurses := true, apart := false }
def LawS3778ACacheSaid : Prop := lawS3778ACacheRow.holds Yba.pinned (OpenSpec.ofChange lawS3778ACacheSpec)

/-- ITS FALSE NEIGHBOUR: 'it returns false'. Refute it at one input. -/
def lawS3778ACacheWrong : ChangeSpec := { name := "lawS3778ACache", fn := fun _ => fun
  | [d1, d2, d3, d4, d5] => { results := [.lit (.bool false)], args := [d1, d2, d3, d4, d5] }
  | _ => none }
def LawS3778ACacheWrongFalsely : Prop := lawS3778ACacheRow.holds Yba.pinned (OpenSpec.ofChange lawS3778ACacheWrong)

/-- 'analysis.LawS3778CAsk': WHATEVER THE INPUT: true; the input reads as it did. -/
def lawS3778CAskSpec : ChangeSpec := { name := "lawS3778CAsk", fn := fun _ => fun
  | [d1, d2, d3, d4, d5] => { results := [.lit (.bool true)], args := [d1, d2, d3, d4, d5] }
  | _ => none }
def lawS3778CAskRow : OpenClaim := { program := "ybulkbzfi", sum := "e68c4a85f7571d94b6c48d6fc30b1b61241c8a0f9d04833a26a2c5a6cd194017", func := "example.com/lockcycle/lockcycle/internal/analysis.LawS3778CAsk", spec := "lawS3778CAsk", unfollowed := true, recurses := true, apart := false }
def LawS3778CAskSaid : Prop := lawS3778CAskRow.holds Yba.pinned (OpenSpec.ofChange lawS3778CAskSpec)

/-- ITS FALSE NEIGHBOUR: 'it returns false'. Refute it at one input. -/
def lawS3778CAskWrong : ChangeSpec := { name := "lawS3778CAsk", fn := fun _ => fun
  | [d1, d2, d3, d4, d5] => { results := [.lit (.bool false)], args := [d1, d2, d3, d4, d5] }
  | _ => none }
def LawS3778CAskWrongFalsely : Prop := lawS3778CAskRow.holds Yba.pinned (OpenSpec.ofChange lawS3778CAskWrong)

end Rows
end Go.Proofs.Ybulkbzfi
