/-
  No cell of these rows narrows 'for every input' (looked for: loops, veiled, ifaces, maps, wideKeys, modest, calm, conditions, laid).
  DERIVED. THE GIVEN ROWS OF THIS SEAT. 2 by the template 'for every input the law returns true; each argument reads behind the call as it read before'; 0 by the template 'total and deterministic' (their statements: YbulkclxkGreatTotals.lean).
  GIVEN WITH THE SEED: the statements are not yours to turn. If you find one false, say at which input.
  Laid BY PROGRAM, IN A SANDBOX (cutbox-rows.mjs): the forced cells as the released guide's own fill.sh prints them over the translation bf5e85ee4acdeff9… (all of the seat's roots in one cut). By AI agents, Wed Nov 11 2026. No macro, syntax, notation, axiom, sorry.
-/
import Derived.Test.YbulkclxkGreatChecked
import GoSem.Claim
import GoSem.ClaimJoined
import GoSem.ClaimMapViews
import Derived.JoinedTies
import Derived.KernelRfl
namespace Go.Proofs.YbulkclxkGreat
/- THE CELL 'sum', in the pinned program and in every row, IS THE sha256 OF THE DUMP (.gsa) THAT YbulkclxkGreatProg.lean LOADS. Nothing in Lean hashes anything: it is a label: what it is worth is what the hold of that sum in a sandbox is worth. -/
noncomputable def Ybaz.pinned : Pinned := { name := "ybulkclxkgreat", sum := "bf5e85ee4acdeff92288d3ed85773d0f4608abb1216620b99c8bdfa76bbe6c7f", checked := Ybaz.checked }
namespace Rows
def none {H : Type} : Left H := { results := [], args := [] }

/-- 'protocol.LawS4391CRoundRobin': WHATEVER THE INPUT: true; the input reads as it did. -/
def lawS4391CRoundRobinSpec : ChangeSpec := { name := "lawS4391CRoundRobin", fn := fun _ => fun
  | [d1, d2, d3, d4] => { results := [.lit (.bool true)], args := [d1, d2, d3, d4] }
  | _ => none }
def lawS4391CRoundRobinRow : OpenClaim := { program := "ybulkclxkgreat", sum := "bf5e85ee4acdeff92288d3ed85773d0f4608abb1216620b99c8bdfa76bbe6c7f", func := "example.com/evenkeel/evenkeel/internal/protocol.LawS4391CRoundRobin", spec := "lawS4391CRoundRobin", inPlace := ["slices.overlaps[example.com/evenkeel/evenkeel/internal/protocol.Peer]"], unfollowed := true, recurses := true, apart := false }
def LawS4391CRoundRobinSaid : Prop := lawS4391CRoundRobinRow.holds Ybaz.pinned (OpenSpec.ofChange lawS4391CRoundRobinSpec)

/-- ITS FALSE NEIGHBOUR: 'it returns false'. Refute it at one input. -/
def lawS4391CRoundRobinWrong : ChangeSpec := { name := "lawS4391CRoundRobin", fn := fun _ => fun
  | [d1, d2, d3, d4] => { results := [.lit (.bool false)], args := [d1, d2, d3, d4] }
  | _ => none }
def LawS4391CRoundRobinWrongFalsely : Prop := lawS4391CRoundRobinRow.holds Ybaz.pinned (OpenSpec.ofChange lawS4391CRoundRobinWrong)

/-- 'protocol.LawS4391CRepair': WHATEVER THE INPUT: true; the input reads as it did. -/
def lawS4391CRepairSpec : ChangeSpec := { name := "lawS4391CRepair", fn := fun _ => fun
  | [d1, d2, d3] => { results := [.lit (.bool true)], args := [d1, d2, d3] }
  | _ => none }
def lawS4391CRepairRow : OpenClaim := { program := "ybulkclxkgreat", sum := "bf5e85ee4acdeff92288d3ed85773d0f4608abb1216620b99c8bdfa76bbe6c7f", func := "example.com/evenkeel/evenkeel/internal/protocol.LawS4391CRepair", spec := "lawS4391CRepair", inPlace := ["slices.overlaps[example.com/evenkeel/evenkeel/internal/protocol.Peer]"], unfollowed := true, recurses := true, apart := false }
def LawS4391CRepairSaid : Prop := lawS4391CRepairRow.holds Ybaz.pinned (OpenSpec.ofChange lawS4391CRepairSpec)

/-- ITS FALSE NEIGHBOUR: 'it returns false'. Refute it at one input. -/
def lawS4391CRepairWrong : ChangeSpec := { name := "lawS4391CRepair", fn := fun _ => fun
  | [d1, d2, d3] => { results := [.lit (.bool false)], args := [d1, d2, d3] }
  | _ => none }
def LawS4391CRepairWrongFalsely : Prop := lawS4391CRepairRow.holds Ybaz.pinned (OpenSpec.ofChange lawS4391CRepairWrong)

end Rows
end Go.Proofs.YbulkclxkGreat
