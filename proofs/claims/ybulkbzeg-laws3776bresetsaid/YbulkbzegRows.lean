/-
  No cell of these rows narrows 'for every input' (looked for: loops, veiled, ifaces, maps, wideKeys, modest, calm, conditions, laid).
  DERIVED. THE GIVEN ROWS OF THIS SEAT. 4 by the template 'for every input the law returns true; each argument reads behind the call as it read before'; 0 by the template 'total and deterministic' (their statements: YbulkbzegTotals.lean).
  GIVEN WITH THE SEED: the statements are not yours to turn. If you find one false, say at which input.
  Laid BY PROGRAM, IN A SANDBOX (cutbox-rows.mjs): the forced cells as the released guide's own fill.sh prints them over the translation 5c97c6570f0562a7… (all of the seat's roots in one cut). By AI agents, Wed Nov 11 2026. No macro, syntax, notation, axiom, sorry.
-/
import Derived.Test.YbulkbzegChecked
import GoSem.Claim
import GoSem.ClaimJoined
import GoSem.ClaimMapViews
import Derived.JoinedTies
import Derived.KernelRfl
namespace Go.Proofs.Ybulkbzeg
/- THE CELL 'sum', in the pinned program and in every row, IS THE sha256 OF THE DUMP (.gsa) THAT YbulkbzegProg.lean LOADS. Nothing in Lean hashes anything: it is a label: what it is worth is what the hold of that sum in a sandbox is worth. -/
noncomputable def Yba.pinned : Pinned := { name := "ybulkbzeg", sum := "5c97c6570f0562a79dc50a9d6f9e2e5ac72960735649b383475ee02c332c724c", checked := Yba.checked }
namespace Rows
def none {H : Type} : Left H := { results := [], args := [] }

/-- 'airquorum.LawS3776AScript': WHATEVER THE INPUT: true; the input reads as it did. -/
def lawS3776AScriptSpec : ChangeSpec := { name := "lawS3776AScript", fn := fun _ => fun
  | [d1, d2, d3, d4, d5, d6, d7] => { results := [.lit (.bool true)], args := [d1, d2, d3, d4, d5, d6, d7] }
  | _ => none }
def lawS3776AScriptRow : OpenClaim := { program := "ybulkbzeg", sum := "5c97c6570f0562a79dc50a9d6f9e2e5ac72960735649b383475ee02c332c724c", func := "example.com/airquorum/airquorum.LawS3776AScript", spec := "lawS3776AScript", plainKeys := false, apart := false }
def LawS3776AScriptSaid : Prop := lawS3776AScriptRow.holds Yba.pinned (OpenSpec.ofChange lawS3776AScriptSpec)

/-- ITS FALSE NEIGHBOUR: 'it returns false'. Refute it at one input. -/
def lawS3776AScriptWrong : ChangeSpec := { name := "lawS3776AScript", fn := fun _ => fun
  | [d1, d2, d3, d4, d5, d6, d7] => { results := [.lit (.bool false)], args := [d1, d2, d3, d4, d5, d6, d7] }
  | _ => none }
def LawS3776AScriptWrongFalsely : Prop := lawS3776AScriptRow.holds Yba.pinned (OpenSpec.ofChange lawS3776AScriptWrong)

/-- 'airquorum.LawS3776BReset': WHATEVER THE INPUT: true; the input reads as it did. -/
def lawS3776BResetSpec : ChangeSpec := { name := "lawS3776BReset", fn := fun _ => fun
  | [d1, d2, d3, d4, d5, d6, d7] => { results := [.lit (.bool true)], args := [d1, d2, d3, d4, d5, d6, d7] }
  | _ => none }
def lawS3776BResetRow : OpenClaim := { program := "ybulkbzeg", sum := "5c97c6570f0562a79dc50a9d6f9e2e5ac72960735649b383475ee02c332c724c", func := "example.com/airquorum/airquorum.LawS3776BReset", spec := "lawS3776BReset", plainKeys := false, apart := false }
def LawS3776BResetSaid : Prop := lawS3776BResetRow.holds Yba.pinned (OpenSpec.ofChange lawS3776BResetSpec)

/-- ITS FALSE NEIGHBOUR: 'it returns false'. Refute it at one input. -/
def lawS3776BResetWrong : ChangeSpec := { name := "lawS3776BReset", fn := fun _ => fun
  | [d1, d2, d3, d4, d5, d6, d7] => { results := [.lit (.bool false)], args := [d1, d2, d3, d4, d5, d6, d7] }
  | _ => none }
def LawS3776BResetWrongFalsely : Prop := lawS3776BResetRow.holds Yba.pinned (OpenSpec.ofChange lawS3776BResetWrong)

/-- 'airquorum.LawS3776CInts': WHATEVER THE INPUT: true; the input reads as it did. -/
def lawS3776CIntsSpec : ChangeSpec := { name := "lawS3776CInts", fn := fun _ => fun
  | [d1, d2] => { results := [.lit (.bool true)], args := [d1, d2] }
  | _ => none }
def lawS3776CIntsRow : OpenClaim := { program := "ybulkbzeg", sum := "5c97c6570f0562a79dc50a9d6f9e2e5ac72960735649b383475ee02c332c724c", func := "example.com/airquorum/airquorum.LawS3776CInts", spec := "lawS3776CInts", plainKeys := false, apart := false }
def LawS3776CIntsSaid : Prop := lawS3776CIntsRow.holds Yba.pinned (OpenSpec.ofChange lawS3776CIntsSpec)

/-- ITS FALSE NEIGHBOUR: 'it returns false'. Refute it at one input. -/
def lawS3776CIntsWrong : ChangeSpec := { name := "lawS3776CInts", fn := fun _ => fun
  | [d1, d2] => { results := [.lit (.bool false)], args := [d1, d2] }
  | _ => none }
def LawS3776CIntsWrongFalsely : Prop := lawS3776CIntsRow.holds Yba.pinned (OpenSpec.ofChange lawS3776CIntsWrong)

/-- 'airquorum.LawS3776CStrings': WHATEVER THE INPUT: true; the input reads as it did. -/
def lawS3776CStringsSpec : ChangeSpec := { name := "lawS3776CStrings", fn := fun _ => fun
  | [d1, d2] => { results := [.lit (.bool true)], args := [d1, d2] }
  | _ => none }
def lawS3776CStringsRow : OpenClaim := { program := "ybulkbzeg", sum := "5c97c6570f0562a79dc50a9d6f9e2e5ac72960735649b383475ee02c332c724c", func := "example.com/airquorum/airquorum.LawS3776CStrings", spec := "lawS3776CStrings", plainKeys := false, apart := false }
def LawS3776CStringsSaid : Prop := lawS3776CStringsRow.holds Yba.pinned (OpenSpec.ofChange lawS3776CStringsSpec)

/-- ITS FALSE NEIGHBOUR: 'it returns false'. Refute it at one input. -/
def lawS3776CStringsWrong : ChangeSpec := { name := "lawS3776CStrings", fn := fun _ => fun
  | [d1, d2] => { results := [.lit (.bool false)], args := [d1, d2] }
  | _ => none }
def LawS3776CStringsWrongFalsely : Prop := lawS3776CStringsRow.holds Yba.pinned (OpenSpec.ofChange lawS3776CStringsWrong)

end Rows
end Go.Proofs.Ybulkbzeg
