/-
  No cell of these rows narrows 'for every input' (looked for: loops, veiled, ifaces, maps, wideKeys, modest, calm, conditions, laid).
  DERIVED. THE GIVEN ROWS OF THIS SEAT. 3 by the template 'for every input the law returns true; each argument reads behind the call as it read before'; 0 by the template 'total and deterministic' (their statements: YbulkclymTotals.lean).
  GIVEN WITH THE SEED: the statements are not yours to turn. If you find one false, say at which input.
  Laid BY PROGRAM, IN A SANDBOX (cutbox-rows.mjs): the forced cells as the released guide's own fill.sh prints them over the translation 0f3c770f450267de… (all of the seat's roots in one cut). By AI agents, Wed Nov 11 2026. No macro, syntax, notation, axiom, sorry.
-/
import Derived.Test.YbulkclymChecked
import GoSem.Claim
import GoSem.ClaimJoined
import GoSem.ClaimMapViews
import Derived.JoinedTies
import Derived.KernelRfl
namespace Go.Proofs.Ybulkclym
/- THE CELL 'sum', in the pinned program and in every row, IS THE sha256 OF THE DUMP (.gsa) THAT YbulkclymProg.lean LOADS. Nothing in Lean hashes anything: it is a label: what it is worth is what the hold of that sum in a sandbox is worth. -/
noncomputable def Yba.pinned : Pinned := { name := "ybulkclym", sum := "0f3c770f450267ded58560969bd6258c1103421e44f1a8ef4533c57ba9f06875", checked := Yba.checked }
namespace Rows
def none {H : Type} : Left H := { results := [], args := [] }

/-- 'knxip.LawS4393AExact': WHATEVER THE INPUT: true; the input reads as it did. -/
def lawS4393AExactSpec : ChangeSpec := { name := "lawS4393AExact", fn := fun _ => fun
  | [d] => { results := [.lit (.bool true)], args := [d] }
  | _ => none }
def lawS4393AExactRow : OpenClaim := { program := "ybulkclym", sum := "0f3c770f450267ded58560969bd6258c1103421e44f1a8ef4533c57ba9f06875", func := "example.com/sealbus/sealbus/knxip.LawS4393AExact", spec := "lawS4393AExact", apart := false }
def LawS4393AExactSaid : Prop := lawS4393AExactRow.holds Yba.pinned (OpenSpec.ofChange lawS4393AExactSpec)

/-- ITS FALSE NEIGHBOUR: 'it returns false'. Refute it at one input. -/
def lawS4393AExactWrong : ChangeSpec := { name := "lawS4393AExact", fn := fun _ => fun
  | [d] => { results := [.lit (.bool false)], args := [d] }
  | _ => none }
def LawS4393AExactWrongFalsely : Prop := lawS4393AExactRow.holds Yba.pinned (OpenSpec.ofChange lawS4393AExactWrong)

/-- 'knxip.LawS4393ABuilt': WHATEVER THE INPUT: true; the input reads as it did. -/
def lawS4393ABuiltSpec : ChangeSpec := { name := "lawS4393ABuilt", fn := fun _ => fun
  | [d1, d2, d3, d4] => { results := [.lit (.bool true)], args := [d1, d2, d3, d4] }
  | _ => none }
def lawS4393ABuiltRow : OpenClaim := { program := "ybulkclym", sum := "0f3c770f450267ded58560969bd6258c1103421e44f1a8ef4533c57ba9f06875", func := "example.com/sealbus/sealbus/knxip.LawS4393ABuilt", spec := "lawS4393ABuilt", apart := false }
def LawS4393ABuiltSaid : Prop := lawS4393ABuiltRow.holds Yba.pinned (OpenSpec.ofChange lawS4393ABuiltSpec)

/-- ITS FALSE NEIGHBOUR: 'it returns false'. Refute it at one input. -/
def lawS4393ABuiltWrong : ChangeSpec := { name := "lawS4393ABuilt", fn := fun _ => fun
  | [d1, d2, d3, d4] => { results := [.lit (.bool false)], args := [d1, d2, d3, d4] }
  | _ => none }
def LawS4393ABuiltWrongFalsely : Prop := lawS4393ABuiltRow.holds Yba.pinned (OpenSpec.ofChange lawS4393ABuiltWrong)

/-- 'secure.LawS4393CFields': WHATEVER THE INPUT: true; the input reads as it did. -/
def lawS4393CFieldsSpec : ChangeSpec := { name := "lawS4393CFields", fn := fun _ => fun
  | [d1, d2] => { results := [.lit (.bool true)], args := [d1, d2] }
  | _ => none }
def lawS4393CFieldsRow : OpenClaim := { program := "ybulkclym", sum := "0f3c770f450267ded58560969bd6258c1103421e44f1a8ef4533c57ba9f06875", func := "example.com/sealbus/sealbus/secure.LawS4393CFields", spec := "lawS4393CFields", named := ["encoding/binary.BigEndian"], apart := false }
def LawS4393CFieldsSaid : Prop := lawS4393CFieldsRow.holds Yba.pinned (OpenSpec.ofChange lawS4393CFieldsSpec)

/-- ITS FALSE NEIGHBOUR: 'it returns false'. Refute it at one input. -/
def lawS4393CFieldsWrong : ChangeSpec := { name := "lawS4393CFields", fn := fun _ => fun
  | [d1, d2] => { results := [.lit (.bool false)], args := [d1, d2] }
  | _ => none }
def LawS4393CFieldsWrongFalsely : Prop := lawS4393CFieldsRow.holds Yba.pinned (OpenSpec.ofChange lawS4393CFieldsWrong)

end Rows
end Go.Proofs.Ybulkclym
