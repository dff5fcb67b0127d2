/-
  The heap slice's methods by their contracts.
-/
import Derived.Test.YbulkchpkRows
import Derived.Test.YbulkchpkRow
import Derived.WalkKit
import Derived.ProofKit
import Derived.OpenShut
import Derived.Deep.QuietTactic
import Derived.Deep.RegionWith
import Derived.BigQuiet
import Derived.BigRegion
import Derived.RegionTactic
import Derived.LoopTactic
import Derived.Handy
namespace Go.Proofs.Ybulkchpk
open Go.ChangeShapes Go.WideShapes Go.ChangeAt Go.RowKit

set_option maxHeartbeats 400000 in
theorem when_any (x : Int) (w : World) : Calls Yba.prog 66 #[.agg #[.int .i64 x]] w fun e w' => e = .returned (.int .i64 x) ∧ w' = w.alloc (.cells #[.int .i64 x] 26) := by
  go_enter Yba.func66, Yba.ntmps66
  go_wp2
  go_ret
  exact ⟨rfl, rfl⟩

set_option maxHeartbeats 400000 in
theorem len_any (a : Option Addr) (k c : Nat) (w : World) : Calls Yba.prog 13 #[.slice a k c] w fun e w' => e = .returned (.int .i64 k) ∧ w' = w := by
  go_enter Yba.func13, Yba.ntmps13
  go_wp2
  go_ret
  exact ⟨rfl, rfl⟩

set_option maxRecDepth 100000 in
set_option maxHeartbeats 1000000 in
theorem less_any (g k c i j : Nat) (x y : Int) (w : World) (hi : i < k) (hj : j < k) (hx : w.cell? ⟨g, i, none⟩ = some (.int .i64 x)) (hy : w.cell? ⟨g, j, none⟩ = some (.int .i64 y)) :
    Calls Yba.prog 64 #[.slice (some ⟨g, 0, none⟩) k c, .int .i64 i, .int .i64 j] w fun e w' => e = .returned (.bool (decide (x < y))) ∧ Below w.heap.size w w' := by
  have t1 : (i : Int) < (k : Int) := by omega
  have t2 : (j : Int) < (k : Int) := by omega
  have hg := block_lt_of_cell (a := ⟨g, i, none⟩) hx
  simp only at hg
  go_enter Yba.func64, Yba.ntmps64
  go_wp2_with fail
  go_region_with (go_upon; go_at_call 66; refine (when_any _ _).mono ?_; rintro e w' ⟨rfl, rfl⟩)
  all_goals
    go_wp2
    go_ret
    exact ⟨rfl, by go_grown⟩

set_option maxRecDepth 100000 in
set_option maxHeartbeats 1000000 in
theorem swap_any (g k c i j : Nat) (x y : Int) (w : World) (hi : i < k) (hj : j < k) (hij : i ≠ j) (hx : w.cell? ⟨g, i, none⟩ = some (.int .i64 x)) (hy : w.cell? ⟨g, j, none⟩ = some (.int .i64 y)) (fx : w.frozen? ⟨g, i, none⟩ = false) (fy : w.frozen? ⟨g, j, none⟩ = false) :
    Calls Yba.prog 65 #[.slice (some ⟨g, 0, none⟩) k c, .int .i64 i, .int .i64 j] w fun e w' => e = .returned (.tuple #[]) ∧ w' = ((w.setCell ⟨g, i, none⟩ (.int .i64 y)).setCell ⟨g, j, none⟩ (.int .i64 x)).drew := by
  have t1 : (i : Int) < (k : Int) := by omega
  have t2 : (j : Int) < (k : Int) := by omega
  go_enter Yba.func65, Yba.ntmps65
  go_wp2_with fail
  go_region
  all_goals
    go_end0
    exact ⟨rfl, rfl⟩
end Go.Proofs.Ybulkchpk
