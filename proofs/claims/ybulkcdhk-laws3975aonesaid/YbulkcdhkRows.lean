/-
  No cell of these rows narrows 'for every input' (looked for: loops, veiled, ifaces, maps, wideKeys, modest, calm, conditions, laid).
  DERIVED. THE GIVEN ROWS OF THIS SEAT. 4 by the template 'for every input the law returns true; each argument reads behind the call as it read before'; 0 by the template 'total and deterministic' (their statements: YbulkcdhkTotals.lean).
  GIVEN WITH THE SEED: the statements are not yours to turn. If you find one false, say at which input.
  Laid BY PROGRAM, IN A SANDBOX (cutbox-rows.mjs): the forced cells as the released guide's own fill.sh prints them over the translation 8452e5c9a9a50f84… (all of the seat's roots in one cut). By AI agents, Wed Nov 11 2026. No macro, syntax, notation, axiom, sorry.
-/
import Derived.Test.YbulkcdhkChecked
import GoSem.Claim
import GoSem.ClaimJoined
import GoSem.ClaimMapViews
import Derived.JoinedTies
import Derived.KernelRfl
namespace Go.Proofs.Ybulkcdhk
/- THE CELL 'sum', in the pinned program and in every row, IS THE sha256 OF THE DUMP (.gsa) THAT YbulkcdhkProg.lean LOADS. Nothing in Lean hashes anything: it is a label: what it is worth is what the hold of that sum in a sandbox is worth. -/
noncomputable def Yba.pinned : Pinned := { name := "ybulkcdhk", sum := "8452e5c9a9a50f84895075ba30f2422267fd2cb550a47b59c50eaeb88fb9fea7", checked := Yba.checked }
namespace Rows
def none {H : Type} : Left H := { results := [], args := [] }

/-- 'reward-circuits.LawS3975ADot': WHATEVER THE INPUT: true; the input reads as it did. -/
def lawS3975ADotSpec : ChangeSpec := { name := "lawS3975ADot", fn := fun _ => fun
  | [d1, d2] => { results := [.lit (.bool true)], args := [d1, d2] }
  | _ => none }
def lawS3975ADotRow : OpenClaim := { program := "ybulkcdhk", sum := "8452e5c9a9a50f84895075ba30f2422267fd2cb550a47b59c50eaeb88fb9fea7", func := "example.com/reward-circuits/reward-circuits.LawS3975ADot", spec := "lawS3975ADot", inPlace := ["math.Float64bits"], apart := false }
def LawS3975ADotSaid : Prop := lawS3975ADotRow.holds Yba.pinned (OpenSpec.ofChange lawS3975ADotSpec)

/-- ITS FALSE NEIGHBOUR: 'it returns false'. Refute it at one input. -/
def lawS3975ADotWrong : ChangeSpec := { name := "lawS3975ADot", fn := fun _ => fun
  | [d1, d2] => { results := [.lit (.bool false)], args := [d1, d2] }
  | _ => none }
def LawS3975ADotWrongFalsely : Prop := lawS3975ADotRow.holds Yba.pinned (OpenSpec.ofChange lawS3975ADotWrong)

/-- 'reward-circuits.LawS3975AOne': WHATEVER THE INPUT: true; the input reads as it did. -/
def lawS3975AOneSpec : ChangeSpec := { name := "lawS3975AOne", fn := fun _ => fun
  | [d1, d2, d3] => { results := [.lit (.bool true)], args := [d1, d2, d3] }
  | _ => none }
def lawS3975AOneRow : OpenClaim := { program := "ybulkcdhk", sum := "8452e5c9a9a50f84895075ba30f2422267fd2cb550a47b59c50eaeb88fb9fea7", func := "example.com/reward-circuits/reward-circuits.LawS3975AOne", spec := "lawS3975AOne", inPlace := ["math.Float64bits", "math.Float64frombits"], apart := false }
def LawS3975AOneSaid : Prop := lawS3975AOneRow.holds Yba.pinned (OpenSpec.ofChange lawS3975AOneSpec)

/-- ITS FALSE NEIGHBOUR: 'it returns false'. Refute it at one input. -/
def lawS3975AOneWrong : ChangeSpec := { name := "lawS3975AOne", fn := fun _ => fun
  | [d1, d2, d3] => { results := [.lit (.bool false)], args := [d1, d2, d3] }
  | _ => none }
def LawS3975AOneWrongFalsely : Prop := lawS3975AOneRow.holds Yba.pinned (OpenSpec.ofChange lawS3975AOneWrong)

/-- 'reward-circuits.LawS3975BExact': WHATEVER THE INPUT: true; the input reads as it did. -/
def lawS3975BExactSpec : ChangeSpec := { name := "lawS3975BExact", fn := fun _ => fun
  | [d] => { results := [.lit (.bool true)], args := [d] }
  | _ => none }
def lawS3975BExactRow : OpenClaim := { program := "ybulkcdhk", sum := "8452e5c9a9a50f84895075ba30f2422267fd2cb550a47b59c50eaeb88fb9fea7", func := "example.com/reward-circuits/reward-circuits.LawS3975BExact", spec := "lawS3975BExact", apart := false }
def LawS3975BExactSaid : Prop := lawS3975BExactRow.holds Yba.pinned (OpenSpec.ofChange lawS3975BExactSpec)

/-- ITS FALSE NEIGHBOUR: 'it returns false'. Refute it at one input. -/
def lawS3975BExactWrong : ChangeSpec := { name := "lawS3975BExact", fn := fun _ => fun
  | [d] => { results := [.lit (.bool false)], args := [d] }
  | _ => none }
def LawS3975BExactWrongFalsely : Prop := lawS3975BExactRow.holds Yba.pinned (OpenSpec.ofChange lawS3975BExactWrong)

/-- 'reward-circuits.LawS3975BDistinct': WHATEVER THE INPUT: true; the input reads as it did. -/
def lawS3975BDistinctSpec : ChangeSpec := { name := "lawS3975BDistinct", fn := fun _ => fun
  | [d] => { results := [.lit (.bool true)], args := [d] }
  | _ => none }
def lawS3975BDistinctRow : OpenClaim := { program := "ybulkcdhk", sum := "8452e5c9a9a50f84895075ba30f2422267fd2cb550a47b59c50eaeb88fb9fea7", func := "example.com/reward-circuits/reward-circuits.LawS3975BDistinct", spec := "lawS3975BDistinct", apart := false }
def LawS3975BDistinctSaid : Prop := lawS3975BDistinctRow.holds Yba.pinned (OpenSpec.ofChange lawS3975BDistinctSpec)

/-- ITS FALSE NEIGHBOUR: 'it returns false'. Refute it at one input. -/
def lawS3975BDistinctWrong : ChangeSpec := { name := "lawS3975BDistinct", fn := fun _ => fun
  | [d] => { results := [.lit (.bool false)], args := [d] }
  | _ => none }
def LawS3975BDistinctWrongFalsely : Prop := lawS3975BDistinctRow.holds Yba.pinned (OpenSpec.ofChange lawS3975BDistinctWrong)

end Rows
end Go.Proofs.Ybulkcdhk
