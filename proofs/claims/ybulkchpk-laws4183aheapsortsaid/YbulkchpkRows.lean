/-
  No cell of these rows narrows 'for every input' (looked for: loops, veiled, ifaces, maps, wideKeys, modest, calm, conditions, laid).
  DERIVED. THE GIVEN ROWS OF THIS SEAT. 6 by the template 'for every input the law returns true; each argument reads behind the call as it read before'; 0 by the template 'total and deterministic' (their statements: YbulkchpkTotals.lean).
  GIVEN WITH THE SEED: the statements are not yours to turn. If you find one false, say at which input.
  Laid BY PROGRAM, IN A SANDBOX (cutbox-rows.mjs): the forced cells as the released guide's own fill.sh prints them over the translation d730b98c29cacb29… (all of the seat's roots in one cut). By AI agents, Wed Nov 11 2026. No macro, syntax, notation, axiom, sorry.
-/
import Derived.Test.YbulkchpkChecked
import GoSem.Claim
import GoSem.ClaimJoined
import GoSem.ClaimMapViews
import Derived.JoinedTies
import Derived.KernelRfl
namespace Go.Proofs.Ybulkchpk
/- THE CELL 'sum', in the pinned program and in every row, IS THE sha256 OF THE DUMP (.gsa) THAT YbulkchpkProg.lean LOADS. Nothing in Lean hashes anything: it is a label: what it is worth is what the hold of that sum in a sandbox is worth. -/
noncomputable def Yba.pinned : Pinned := { name := "ybulkchpk", sum := "d730b98c29cacb29ff7180f4c6ec207076deab4e90b004173099ed0a7a31a20c", checked := Yba.checked }
namespace Rows
def none {H : Type} : Left H := { results := [], args := [] }

/-- 'evenkeel.LawS4183APopLast': WHATEVER THE INPUT: true; the input reads as it did. -/
def lawS4183APopLastSpec : ChangeSpec := { name := "lawS4183APopLast", fn := fun _ => fun
  | [d] => { results := [.lit (.bool true)], args := [d] }
  | _ => none }
def lawS4183APopLastRow : OpenClaim := { program := "ybulkchpk", sum := "d730b98c29cacb29ff7180f4c6ec207076deab4e90b004173099ed0a7a31a20c", func := "example.com/evenkeel/evenkeel.LawS4183APopLast", spec := "lawS4183APopLast", apart := false }
def LawS4183APopLastSaid : Prop := lawS4183APopLastRow.holds Yba.pinned (OpenSpec.ofChange lawS4183APopLastSpec)

/-- ITS FALSE NEIGHBOUR: 'it returns false'. Refute it at one input. -/
def lawS4183APopLastWrong : ChangeSpec := { name := "lawS4183APopLast", fn := fun _ => fun
  | [d] => { results := [.lit (.bool false)], args := [d] }
  | _ => none }
def LawS4183APopLastWrongFalsely : Prop := lawS4183APopLastRow.holds Yba.pinned (OpenSpec.ofChange lawS4183APopLastWrong)

/-- 'evenkeel.LawS4183AHeapSort': WHATEVER THE INPUT: true; the input reads as it did. -/
def lawS4183AHeapSortSpec : ChangeSpec := { name := "lawS4183AHeapSort", fn := fun _ => fun
  | [d] => { results := [.lit (.bool true)], args := [d] }
  | _ => none }
def lawS4183AHeapSortRow : OpenClaim := { program := "ybulkchpk", sum := "d730b98c29cacb29ff7180f4c6ec207076deab4e90b004173099ed0a7a31a20c", func := "example.com/evenkeel/evenkeel.LawS4183AHeapSort", spec := "lawS4183AHeapSort", unfollowed := true, recurses := true, apart := false }
def LawS4183AHeapSortSaid : Prop := lawS4183AHeapSortRow.holds Yba.pinned (OpenSpec.ofChange lawS4183AHeapSortSpec)

/-- ITS FALSE NEIGHBOUR: 'it returns false'. Refute it at one input. -/
def lawS4183AHeapSortWrong : ChangeSpec := { name := "lawS4183AHeapSort", fn := fun _ => fun
  | [d] => { results := [.lit (.bool false)], args := [d] }
  | _ => none }
def LawS4183AHeapSortWrongFalsely : Prop := lawS4183AHeapSortRow.holds Yba.pinned (OpenSpec.ofChange lawS4183AHeapSortWrong)

/-- 'evenkeel.LawS4183BFields': WHATEVER THE INPUT: true; the input reads as it did. -/
def lawS4183BFieldsSpec : ChangeSpec := { name := "lawS4183BFields", fn := fun _ => fun
  | [d1, d2] => { results := [.lit (.bool true)], args := [d1, d2] }
  | _ => none }
def lawS4183BFieldsRow : OpenClaim := { program := "ybulkchpk", sum := "d730b98c29cacb29ff7180f4c6ec207076deab4e90b004173099ed0a7a31a20c", func := "example.com/evenkeel/evenkeel.LawS4183BFields", spec := "lawS4183BFields", inPlace := ["math.Float64bits"], apart := false }
def LawS4183BFieldsSaid : Prop := lawS4183BFieldsRow.holds Yba.pinned (OpenSpec.ofChange lawS4183BFieldsSpec)

/-- ITS FALSE NEIGHBOUR: 'it returns false'. Refute it at one input. -/
def lawS4183BFieldsWrong : ChangeSpec := { name := "lawS4183BFields", fn := fun _ => fun
  | [d1, d2] => { results := [.lit (.bool false)], args := [d1, d2] }
  | _ => none }
def LawS4183BFieldsWrongFalsely : Prop := lawS4183BFieldsRow.holds Yba.pinned (OpenSpec.ofChange lawS4183BFieldsWrong)

/-- 'evenkeel.LawS4183BJobs': WHATEVER THE INPUT: true; the input reads as it did. -/
def lawS4183BJobsSpec : ChangeSpec := { name := "lawS4183BJobs", fn := fun _ => fun
  | [d1, d2] => { results := [.lit (.bool true)], args := [d1, d2] }
  | _ => none }
def lawS4183BJobsRow : OpenClaim := { program := "ybulkchpk", sum := "d730b98c29cacb29ff7180f4c6ec207076deab4e90b004173099ed0a7a31a20c", func := "example.com/evenkeel/evenkeel.LawS4183BJobs", spec := "lawS4183BJobs", inPlace := ["math.Float64bits"], apart := false }
def LawS4183BJobsSaid : Prop := lawS4183BJobsRow.holds Yba.pinned (OpenSpec.ofChange lawS4183BJobsSpec)

/-- ITS FALSE NEIGHBOUR: 'it returns false'. Refute it at one input. -/
def lawS4183BJobsWrong : ChangeSpec := { name := "lawS4183BJobs", fn := fun _ => fun
  | [d1, d2] => { results := [.lit (.bool false)], args := [d1, d2] }
  | _ => none }
def LawS4183BJobsWrongFalsely : Prop := lawS4183BJobsRow.holds Yba.pinned (OpenSpec.ofChange lawS4183BJobsWrong)

/-- 'evenkeel.LawS4183CUpdate': WHATEVER THE INPUT: true; the input reads as it did. -/
def lawS4183CUpdateSpec : ChangeSpec := { name := "lawS4183CUpdate", fn := fun _ => fun
  | [d1, d2, d3, d4, d5, d6, d7, d8, d9, d10] => { results := [.lit (.bool true)], args := [d1, d2, d3, d4, d5, d6, d7, d8, d9, d10] }
  | _ => none }
def lawS4183CUpdateRow : OpenClaim := { program := "ybulkchpk", sum := "d730b98c29cacb29ff7180f4c6ec207076deab4e90b004173099ed0a7a31a20c", func := "example.com/evenkeel/evenkeel.LawS4183CUpdate", spec := "lawS4183CUpdate", apart := false }
def LawS4183CUpdateSaid : Prop := lawS4183CUpdateRow.holds Yba.pinned (OpenSpec.ofChange lawS4183CUpdateSpec)

/-- ITS FALSE NEIGHBOUR: 'it returns false'. Refute it at one input. -/
def lawS4183CUpdateWrong : ChangeSpec := { name := "lawS4183CUpdate", fn := fun _ => fun
  | [d1, d2, d3, d4, d5, d6, d7, d8, d9, d10] => { results := [.lit (.bool false)], args := [d1, d2, d3, d4, d5, d6, d7, d8, d9, d10] }
  | _ => none }
def LawS4183CUpdateWrongFalsely : Prop := lawS4183CUpdateRow.holds Yba.pinned (OpenSpec.ofChange lawS4183CUpdateWrong)

/-- 'evenkeel.LawS4183CUndo': WHATEVER THE INPUT: true; the input reads as it did. -/
def lawS4183CUndoSpec : ChangeSpec := { name := "lawS4183CUndo", fn := fun _ => fun
  | [d1, d2, d3, d4, d5, d6, d7, d8, d9] => { results := [.lit (.bool true)], args := [d1, d2, d3, d4, d5, d6, d7, d8, d9] }
  | _ => none }
def lawS4183CUndoRow : OpenClaim := { program := "ybulkchpk", sum := "d730b98c29cacb29ff7180f4c6ec207076deab4e90b004173099ed0a7a31a20c", func := "example.com/evenkeel/evenkeel.LawS4183CUndo", spec := "lawS4183CUndo", apart := false }
def LawS4183CUndoSaid : Prop := lawS4183CUndoRow.holds Yba.pinned (OpenSpec.ofChange lawS4183CUndoSpec)

/-- ITS FALSE NEIGHBOUR: 'it returns false'. Refute it at one input. -/
def lawS4183CUndoWrong : ChangeSpec := { name := "lawS4183CUndo", fn := fun _ => fun
  | [d1, d2, d3, d4, d5, d6, d7, d8, d9] => { results := [.lit (.bool false)], args := [d1, d2, d3, d4, d5, d6, d7, d8, d9] }
  | _ => none }
def LawS4183CUndoWrongFalsely : Prop := lawS4183CUndoRow.holds Yba.pinned (OpenSpec.ofChange lawS4183CUndoWrong)

end Rows
end Go.Proofs.Ybulkchpk
