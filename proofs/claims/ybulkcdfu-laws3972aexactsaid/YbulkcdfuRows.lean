/-
  No cell of these rows narrows 'for every input' (looked for: loops, veiled, ifaces, maps, wideKeys, modest, calm, conditions, laid).
  DERIVED. THE GIVEN ROWS OF THIS SEAT. 3 by the template 'for every input the law returns true; each argument reads behind the call as it read before'; 0 by the template 'total and deterministic' (their statements: YbulkcdfuTotals.lean).
  GIVEN WITH THE SEED: the statements are not yours to turn. If you find one false, say at which input.
  Laid BY PROGRAM, IN A SANDBOX (cutbox-rows.mjs): the forced cells as the released guide's own fill.sh prints them over the translation 8b2dc3937411afa1… (all of the seat's roots in one cut). By AI agents, Wed Nov 11 2026. No macro, syntax, notation, axiom, sorry.
-/
import Derived.Test.YbulkcdfuChecked
import GoSem.Claim
import GoSem.ClaimJoined
import GoSem.ClaimMapViews
import Derived.JoinedTies
import Derived.KernelRfl
namespace Go.Proofs.Ybulkcdfu
/- THE CELL 'sum', in the pinned program and in every row, IS THE sha256 OF THE DUMP (.gsa) THAT YbulkcdfuProg.lean LOADS. Nothing in Lean hashes anything: it is a label: what it is worth is what the hold of that sum in a sandbox is worth. -/
noncomputable def Yba.pinned : Pinned := { name := "ybulkcdfu", sum := "8b2dc3937411afa144688f30c9bb95d947ceb7214b232139a1ac4e0efb7e87a5", checked := Yba.checked }
namespace Rows
def none {H : Type} : Left H := { results := [], args := [] }

/-- 'chronowire.LawS3972AExact': WHATEVER THE INPUT: true; the input reads as it did. -/
def lawS3972AExactSpec : ChangeSpec := { name := "lawS3972AExact", fn := fun _ => fun
  | [d1, d2] => { results := [.lit (.bool true)], args := [d1, d2] }
  | _ => none }
def lawS3972AExactRow : OpenClaim := { program := "ybulkcdfu", sum := "8b2dc3937411afa144688f30c9bb95d947ceb7214b232139a1ac4e0efb7e87a5", func := "example.com/chronowire/chronowire.LawS3972AExact", spec := "lawS3972AExact", apart := false }
def LawS3972AExactSaid : Prop := lawS3972AExactRow.holds Yba.pinned (OpenSpec.ofChange lawS3972AExactSpec)

/-- ITS FALSE NEIGHBOUR: 'it returns false'. Refute it at one input. -/
def lawS3972AExactWrong : ChangeSpec := { name := "lawS3972AExact", fn := fun _ => fun
  | [d1, d2] => { results := [.lit (.bool false)], args := [d1, d2] }
  | _ => none }
def LawS3972AExactWrongFalsely : Prop := lawS3972AExactRow.holds Yba.pinned (OpenSpec.ofChange lawS3972AExactWrong)

/-- 'chronowire.LawS3972CModel': WHATEVER THE INPUT: true; the input reads as it did. -/
def lawS3972CModelSpec : ChangeSpec := { name := "lawS3972CModel", fn := fun _ => fun
  | [d1, d2] => { results := [.lit (.bool true)], args := [d1, d2] }
  | _ => none }
def lawS3972CModelRow : OpenClaim := { program := "ybulkcdfu", sum := "8b2dc3937411afa144688f30c9bb95d947ceb7214b232139a1ac4e0efb7e87a5", func := "example.com/chronowire/chronowire.LawS3972CModel", spec := "lawS3972CModel", apart := false }
def LawS3972CModelSaid : Prop := lawS3972CModelRow.holds Yba.pinned (OpenSpec.ofChange lawS3972CModelSpec)

/-- ITS FALSE NEIGHBOUR: 'it returns false'. Refute it at one input. -/
def lawS3972CModelWrong : ChangeSpec := { name := "lawS3972CModel", fn := fun _ => fun
  | [d1, d2] => { results := [.lit (.bool false)], args := [d1, d2] }
  | _ => none }
def LawS3972CModelWrongFalsely : Prop := lawS3972CModelRow.holds Yba.pinned (OpenSpec.ofChange lawS3972CModelWrong)

/-- 'chronowire.LawS3972CEdit': WHATEVER THE INPUT: true; the input reads as it did. -/
def lawS3972CEditSpec : ChangeSpec := { name := "lawS3972CEdit", fn := fun _ => fun
  | [d1, d2, d3, d4, d5] => { results := [.lit (.bool true)], args := [d1, d2, d3, d4, d5] }
  | _ => none }
def lawS3972CEditRow : OpenClaim := { program := "ybulkcdfu", sum := "8b2dc3937411afa144688f30c9bb95d947ceb7214b232139a1ac4e0efb7e87a5", func := "example.com/chronowire/chronowire.LawS3972CEdit", spec := "lawS3972CEdit", apart := false }
def LawS3972CEditSaid : Prop := lawS3972CEditRow.holds Yba.pinned (OpenSpec.ofChange lawS3972CEditSpec)

/-- ITS FALSE NEIGHBOUR: 'it returns false'. Refute it at one input. -/
def lawS3972CEditWrong : ChangeSpec := { name := "lawS3972CEdit", fn := fun _ => fun
  | [d1, d2, d3, d4, d5] => { results := [.lit (.bool false)], args := [d1, d2, d3, d4, d5] }
  | _ => none }
def LawS3972CEditWrongFalsely : Prop := lawS3972CEditRow.holds Yba.pinned (OpenSpec.ofChange lawS3972CEditWrong)

end Rows
end Go.Proofs.Ybulkcdfu
