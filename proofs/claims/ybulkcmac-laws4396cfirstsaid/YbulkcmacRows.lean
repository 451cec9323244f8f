/-
  No cell of these rows narrows 'for every input' (looked for: loops, veiled, ifaces, maps, wideKeys, modest, calm, conditions, laid).
  DERIVED. THE GIVEN ROWS OF THIS SEAT. 2 by the template 'for every input the law returns true; each argument reads behind the call as it read before'; 0 by the template 'total and deterministic' (their statements: YbulkcmacTotals.lean).
  GIVEN WITH THE SEED: the statements are not yours to turn. If you find one false, say at which input.
  Laid BY PROGRAM, IN A SANDBOX (cutbox-rows.mjs): the forced cells as the released guide's own fill.sh prints them over the translation 97c297e8b297e77f… (all of the seat's roots in one cut). By AI agents, Wed Nov 11 2026. No macro, syntax, notation, axiom, sorry.
-/
import Derived.Test.YbulkcmacChecked
import GoSem.Claim
import GoSem.ClaimJoined
import GoSem.ClaimMapViews
import Derived.JoinedTies
import Derived.KernelRfl
namespace Go.Proofs.Ybulkcmac
/- THE CELL 'sum', in the pinned program and in every row, IS THE sha256 OF THE DUMP (.gsa) THAT YbulkcmacProg.lean LOADS. Nothing in Lean hashes anything: it is a label: what it is worth is what the hold of that sum in a sandbox is worth. -/
noncomputable def Yba.pinned : Pinned := { name := "ybulkcmac", sum := "97c297e8b297e77fe118b456d727f0cd9c12a8a673dd9a3cfc73ef21ff8125a9", checked := Yba.checked }
namespace Rows
def none {H : Type} : Left H := { results := [], args := [] }

/-- 'desc.LawS4396CModel': WHATEVER THE INPUT: true; the input reads as it did. -/
def lawS4396CModelSpec : ChangeSpec := { name := "lawS4396CModel", fn := fun _ => fun
  | [d1, d2] => { results := [.lit (.bool true)], args := [d1, d2] }
  | _ => none }
def lawS4396CModelRow : OpenClaim := { program := "ybulkcmac", sum := "97c297e8b297e77fe118b456d727f0cd9c12a8a673dd9a3cfc73ef21ff8125a9", func := "example.com/trapsmith/trapsmith/desc.LawS4396CModel", spec := "lawS4396CModel", apart := false }
def LawS4396CModelSaid : Prop := lawS4396CModelRow.holds Yba.pinned (OpenSpec.ofChange lawS4396CModelSpec)

/-- ITS FALSE NEIGHBOUR: 'it returns false'. Refute it at one input. -/
def lawS4396CModelWrong : ChangeSpec := { name := "lawS4396CModel", fn := fun _ => fun
  | [d1, d2] => { results := [.lit (.bool false)], args := [d1, d2] }
  | _ => none }
def LawS4396CModelWrongFalsely : Prop := lawS4396CModelRow.holds Yba.pinned (OpenSpec.ofChange lawS4396CModelWrong)

/-- 'desc.LawS4396CFirst': WHATEVER THE INPUT: true; the input reads as it did. -/
def lawS4396CFirstSpec : ChangeSpec := { name := "lawS4396CFirst", fn := fun _ => fun
  | [d1, d2, d3] => { results := [.lit (.bool true)], args := [d1, d2, d3] }
  | _ => none }
def lawS4396CFirstRow : OpenClaim := { program := "ybulkcmac", sum := "97c297e8b297e77fe118b456d727f0cd9c12a8a673dd9a3cfc73ef21ff8125a9", func := "example.com/trapsmith/trapsmith/desc.LawS4396CFirst", spec := "lawS4396CFirst", apart := false }
def LawS4396CFirstSaid : Prop := lawS4396CFirstRow.holds Yba.pinned (OpenSpec.ofChange lawS4396CFirstSpec)

/-- ITS FALSE NEIGHBOUR: 'it returns false'. Refute it at one input. -/
def lawS4396CFirstWrong : ChangeSpec := { name := "lawS4396CFirst", fn := fun _ => fun
  | [d1, d2, d3] => { results := [.lit (.bool false)], args := [d1, d2, d3] }
  | _ => none }
def LawS4396CFirstWrongFalsely : Prop := lawS4396CFirstRow.holds Yba.pinned (OpenSpec.ofChange lawS4396CFirstWrong)

end Rows
end Go.Proofs.Ybulkcmac
