/-
  No cell of these rows narrows 'for every input' (looked for: loops, veiled, ifaces, maps, wideKeys, modest, calm, conditions, laid).
  DERIVED. THE GIVEN ROWS OF THIS SEAT. 3 by the template 'for every input the law returns true; each argument reads behind the call as it read before'; 0 by the template 'total and deterministic' (their statements: YbulkchpyTotals.lean).
  GIVEN WITH THE SEED: the statements are not yours to turn. If you find one false, say at which input.
  Laid BY PROGRAM, IN A SANDBOX (cutbox-rows.mjs): the forced cells as the released guide's own fill.sh prints them over the translation 4bb517a90b4f69f4… (all of the seat's roots in one cut). By AI agents, Wed Nov 11 2026. No macro, syntax, notation, axiom, sorry.
-/
import Derived.Test.YbulkchpyChecked
import GoSem.Claim
import GoSem.ClaimJoined
import GoSem.ClaimMapViews
import Derived.JoinedTies
import Derived.KernelRfl
namespace Go.Proofs.Ybulkchpy
/- THE CELL 'sum', in the pinned program and in every row, IS THE sha256 OF THE DUMP (.gsa) THAT YbulkchpyProg.lean LOADS. Nothing in Lean hashes anything: it is a label: what it is worth is what the hold of that sum in a sandbox is worth. -/
noncomputable def Yba.pinned : Pinned := { name := "ybulkchpy", sum := "4bb517a90b4f69f40efcf42a6d67783eea11b9831b9e7028d650c72da9cab220", checked := Yba.checked }
namespace Rows
def none {H : Type} : Left H := { results := [], args := [] }

/-- 'heartwatch.LawS4184AForgetAt': WHATEVER THE INPUT: true; the input reads as it did. -/
def lawS4184AForgetAtSpec : ChangeSpec := { name := "lawS4184AForgetAt", fn := fun _ => fun
  | [d1, d2, d3] => { results := [.lit (.bool true)], args := [d1, d2, d3] }
  | _ => none }
def lawS4184AForgetAtRow : OpenClaim := { program := "ybulkchpy", sum := "4bb517a90b4f69f40efcf42a6d67783eea11b9831b9e7028d650c72da9cab220", func := "example.com/heartwatch/heartwatch.LawS4184AForgetAt", spec := "lawS4184AForgetAt", apart := false }
def LawS4184AForgetAtSaid : Prop := lawS4184AForgetAtRow.holds Yba.pinned (OpenSpec.ofChange lawS4184AForgetAtSpec)

/-- ITS FALSE NEIGHBOUR: 'it returns false'. Refute it at one input. -/
def lawS4184AForgetAtWrong : ChangeSpec := { name := "lawS4184AForgetAt", fn := fun _ => fun
  | [d1, d2, d3] => { results := [.lit (.bool false)], args := [d1, d2, d3] }
  | _ => none }
def LawS4184AForgetAtWrongFalsely : Prop := lawS4184AForgetAtRow.holds Yba.pinned (OpenSpec.ofChange lawS4184AForgetAtWrong)

/-- 'heartwatch.LawS4184BModel': WHATEVER THE INPUT: true; the input reads as it did. -/
def lawS4184BModelSpec : ChangeSpec := { name := "lawS4184BModel", fn := fun _ => fun
  | [d1, d2] => { results := [.lit (.bool true)], args := [d1, d2] }
  | _ => none }
def lawS4184BModelRow : OpenClaim := { program := "ybulkchpy", sum := "4bb517a90b4f69f40efcf42a6d67783eea11b9831b9e7028d650c72da9cab220", func := "example.com/heartwatch/heartwatch.LawS4184BModel", spec := "lawS4184BModel", apart := false }
def LawS4184BModelSaid : Prop := lawS4184BModelRow.holds Yba.pinned (OpenSpec.ofChange lawS4184BModelSpec)

/-- ITS FALSE NEIGHBOUR: 'it returns false'. Refute it at one input. -/
def lawS4184BModelWrong : ChangeSpec := { name := "lawS4184BModel", fn := fun _ => fun
  | [d1, d2] => { results := [.lit (.bool false)], args := [d1, d2] }
  | _ => none }
def LawS4184BModelWrongFalsely : Prop := lawS4184BModelRow.holds Yba.pinned (OpenSpec.ofChange lawS4184BModelWrong)

/-- 'heartwatch.LawS4184BCommuteAssoc': WHATEVER THE INPUT: true; the input reads as it did. -/
def lawS4184BCommuteAssocSpec : ChangeSpec := { name := "lawS4184BCommuteAssoc", fn := fun _ => fun
  | [d1, d2, d3] => { results := [.lit (.bool true)], args := [d1, d2, d3] }
  | _ => none }
def lawS4184BCommuteAssocRow : OpenClaim := { program := "ybulkchpy", sum := "4bb517a90b4f69f40efcf42a6d67783eea11b9831b9e7028d650c72da9cab220", func := "example.com/heartwatch/heartwatch.LawS4184BCommuteAssoc", spec := "lawS4184BCommuteAssoc", apart := false }
def LawS4184BCommuteAssocSaid : Prop := lawS4184BCommuteAssocRow.holds Yba.pinned (OpenSpec.ofChange lawS4184BCommuteAssocSpec)

/-- ITS FALSE NEIGHBOUR: 'it returns false'. Refute it at one input. -/
def lawS4184BCommuteAssocWrong : ChangeSpec := { name := "lawS4184BCommuteAssoc", fn := fun _ => fun
  | [d1, d2, d3] => { results := [.lit (.bool false)], args := [d1, d2, d3] }
  | _ => none }
def LawS4184BCommuteAssocWrongFalsely : Prop := lawS4184BCommuteAssocRow.holds Yba.pinned (OpenSpec.ofChange lawS4184BCommuteAssocWrong)

end Rows
end Go.Proofs.Ybulkchpy
