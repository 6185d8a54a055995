/-
  No cell of these rows narrows 'for every input' (looked for: loops, veiled, ifaces, maps, wideKeys, modest, calm, conditions, laid).
  DERIVED. THE GIVEN ROWS OF THIS SEAT. 2 by the template 'for every input the law returns true; each argument reads behind the call as it read before'; 0 by the template 'total and deterministic' (their statements: YbulkbzgyTotals.lean).
  GIVEN WITH THE SEED: the statements are not yours to turn. If you find one false, say at which input.
  Laid BY PROGRAM, IN A SANDBOX (cutbox-rows.mjs): the forced cells as the released guide's own fill.sh prints them over the translation f494d2bb2d84d528… (all of the seat's roots in one cut). By AI agents, Wed Nov 11 2026. No macro, syntax, notation, axiom, sorry.
-/
import Derived.Test.YbulkbzgyChecked
import GoSem.Claim
import GoSem.ClaimJoined
import GoSem.ClaimMapViews
import Derived.JoinedTies
import Derived.KernelRfl
namespace Go.Proofs.Ybulkbzgy
/- THE CELL 'sum', in the pinned program and in every row, IS THE sha256 OF THE DUMP (.gsa) THAT YbulkbzgyProg.lean LOADS. Nothing in Lean hashes anything: it is a label: what it is worth is what the hold of that sum in a sandbox is worth. -/
noncomputable def Yba.pinned : Pinned := { name := "ybulkbzgy", sum := "f494d2bb2d84d5281e68f5c085d57845e1a011521ef35229457b2b3c8d62ba72", checked := Yba.checked }
namespace Rows
def none {H : Type} : Left H := { results := [], args := [] }

/-- 'cubeweave.LawS3781CFixed': WHATEVER THE INPUT: true; the input reads as it did. -/
def lawS3781CFixedSpec : ChangeSpec := { name := "lawS3781CFixed", fn := fun _ => fun
  | [d1, d2, d3] => { results := [.lit (.bool true)], args := [d1, d2, d3] }
  | _ => none }
def lawS3781CFixedRow : OpenClaim := { program := "ybulkbzgy", sum := "f494d2bb2d84d5281e68f5c085d57845e1a011521ef35229457b2b3c8d62ba72", func := "example.com/cubeweave/cubeweave.LawS3781CFixed", spec := "lawS3781CFixed", apart := false }
def LawS3781CFixedSaid : Prop := lawS3781CFixedRow.holds Yba.pinned (OpenSpec.ofChange lawS3781CFixedSpec)

/-- ITS FALSE NEIGHBOUR: 'it returns false'. Refute it at one input. -/
def lawS3781CFixedWrong : ChangeSpec := { name := "lawS3781CFixed", fn := fun _ => fun
  | [d1, d2, d3] => { results := [.lit (.bool false)], args := [d1, d2, d3] }
  | _ => none }
def LawS3781CFixedWrongFalsely : Prop := lawS3781CFixedRow.holds Yba.pinned (OpenSpec.ofChange lawS3781CFixedWrong)

/-- 'cubeweave.LawS3781CSeq': WHATEVER THE INPUT: true; the input reads as it did. -/
def lawS3781CSeqSpec : ChangeSpec := { name := "lawS3781CSeq", fn := fun _ => fun
  | [d1, d2] => { results := [.lit (.bool true)], args := [d1, d2] }
  | _ => none }
def lawS3781CSeqRow : OpenClaim := { program := "ybulkbzgy", sum := "f494d2bb2d84d5281e68f5c085d57845e1a011521ef35229457b2b3c8d62ba72", func := "example.com/cubeweave/cubeweave.LawS3781CSeq", spec := "lawS3781CSeq", apart := false }
def LawS3781CSeqSaid : Prop := lawS3781CSeqRow.holds Yba.pinned (OpenSpec.ofChange lawS3781CSeqSpec)

/-- ITS FALSE NEIGHBOUR: 'it returns false'. Refute it at one input. -/
def lawS3781CSeqWrong : ChangeSpec := { name := "lawS3781CSeq", fn := fun _ => fun
  | [d1, d2] => { results := [.lit (.bool false)], args := [d1, d2] }
  | _ => none }
def LawS3781CSeqWrongFalsely : Prop := lawS3781CSeqRow.holds Yba.pinned (OpenSpec.ofChange lawS3781CSeqWrong)

end Rows
end Go.Proofs.Ybulkbzgy
