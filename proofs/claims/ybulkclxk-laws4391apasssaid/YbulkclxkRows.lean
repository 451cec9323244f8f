/-
  No cell of these rows narrows 'for every input' (looked for: loops, veiled, ifaces, maps, wideKeys, modest, calm, conditions, laid).
  DERIVED. THE GIVEN ROWS OF THIS SEAT. 1 by the template 'for every input the law returns true; each argument reads behind the call as it read before'; 0 by the template 'total and deterministic' (their statements: YbulkclxkTotals.lean).
  GIVEN WITH THE SEED: the statements are not yours to turn. If you find one false, say at which input.
  Laid BY PROGRAM, IN A SANDBOX (cutbox-rows.mjs): the forced cells as the released guide's own fill.sh prints them over the translation 0d3a130e010b8213… (all of the seat's roots in one cut). By AI agents, Wed Nov 11 2026. No macro, syntax, notation, axiom, sorry.
-/
import Derived.Test.YbulkclxkChecked
import GoSem.Claim
import GoSem.ClaimJoined
import GoSem.ClaimMapViews
import Derived.JoinedTies
import Derived.KernelRfl
namespace Go.Proofs.Ybulkclxk
/- THE CELL 'sum', in the pinned program and in every row, IS THE sha256 OF THE DUMP (.gsa) THAT YbulkclxkProg.lean LOADS. Nothing in Lean hashes anything: it is a label: what it is worth is what the hold of that sum in a sandbox is worth. -/
noncomputable def Yba.pinned : Pinned := { name := "ybulkclxk", sum := "0d3a130e010b8213e8678bad03d38c6666a89b6d313d040b52e92a506c54856d", checked := Yba.checked }
namespace Rows
def none {H : Type} : Left H := { results := [], args := [] }

/-- 'protocol.LawS4391APass': WHATEVER THE INPUT: true; the input reads as it did. -/
def lawS4391APassSpec : ChangeSpec := { name := "lawS4391APass", fn := fun _ => fun
  | [d1, d2, d3, d4, d5, d6, d7, d8, d9, d10, d11] => { results := [.lit (.bool true)], args := [d1, d2, d3, d4, d5, d6, d7, d8, d9, d10, d11] }
  | _ => none }
def lawS4391APassRow : OpenClaim := { program := "ybulkclxk", sum := "0d3a130e010b8213e8678bad03d38c6666a89b6d313d040b52e92a506c54856d", func := "example.com/evenkeel/evenkeel/internal/protocol.LawS4391APass", spec := "lawS4391APass", apart := false }
def LawS4391APassSaid : Prop := lawS4391APassRow.holds Yba.pinned (OpenSpec.ofChange lawS4391APassSpec)

/-- ITS FALSE NEIGHBOUR: 'it returns false'. Refute it at one input. -/
def lawS4391APassWrong : ChangeSpec := { name := "lawS4391APass", fn := fun _ => fun
  | [d1, d2, d3, d4, d5, d6, d7, d8, d9, d10, d11] => { results := [.lit (.bool false)], args := [d1, d2, d3, d4, d5, d6, d7, d8, d9, d10, d11] }
  | _ => none }
def LawS4391APassWrongFalsely : Prop := lawS4391APassRow.holds Yba.pinned (OpenSpec.ofChange lawS4391APassWrong)

end Rows
end Go.Proofs.Ybulkclxk
