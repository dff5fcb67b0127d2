/-
  (*Scheduler).status by its contract, where the record is leased to a node.
-/
import Derived.Test.YbulkchpkStat2
namespace Go.Proofs.Ybulkchpk
open Go.ChangeShapes Go.WideShapes Go.ChangeAt Go.RowKit
attribute [local go_sem] run_store_float

set_option maxRecDepth 100000 in
set_option maxHeartbeats 1000000 in
theorem status_some (Sb L C N n j b o : Nat) (nm s0 s1 s2 : ByteArray) (i3 : Int) (f4 : Nat) (i5 : Int) (w : World) (hr : RecAt w b o s0 s1 s2 i3 f4 i5 j) (hj : j < n)
    (k1 : w.cell? ⟨Sb, 0, none⟩ = some (.pointer (some ⟨L, 0, none⟩))) (k2 : w.cell? ⟨L, 0, none⟩ = some (.pointer (some ⟨C, 0, none⟩))) (k3 : w.cell? ⟨C, 1, none⟩ = some (.slice (some ⟨N, 0, none⟩) n n)) (k4 : w.cell? ⟨N, j * 6, none⟩ = some (.string nm)) :
    Calls Yba.prog 17 #[.pointer (some ⟨Sb, 0, none⟩), .pointer (some ⟨b, o, none⟩)] w fun e w' =>
      e = .returned (.agg (statV s0 s1 s2 i3 f4 i5 nm)) ∧ Below w.heap.size w w' := by
  obtain ⟨c0, c1, c2, c3, c4, c5, c6⟩ := hr
  have hb := block_lt_of_cell (a := ⟨b, o, none⟩) c0
  have l1 := block_lt_of_cell (a := ⟨Sb, 0, none⟩) k1
  have l2 := block_lt_of_cell (a := ⟨L, 0, none⟩) k2
  have l3 := block_lt_of_cell (a := ⟨C, 1, none⟩) k3
  have l4 := block_lt_of_cell (a := ⟨N, j * 6, none⟩) k4
  simp only at hb l1 l2 l3 l4
  have t1 : (j : Int) < (n : Int) := by omega
  go_enter Yba.func17, Yba.ntmps17
  go_wp2
  go_region
  go_wp2
  go_region
  go_wp2
  refine bodyPost_ret (v := .agg (statV s0 s1 s2 i3 f4 i5 nm)) (results_cell Yba.results17 _ _ _ ⟨w.heap.size, 0, none⟩ _ rfl (run_loadVar_mid _ _ 0 53 _ _ (((Blk.newA w (statV s0 s1 s2 i3 f4 i5 nm) 53).alloc _).drew.drew.whole) Yba.underlying53 rfl Yba.size53)) rfl ⟨rfl, ?_⟩
  exact (((Below.refl _ _).alloc (Nat.le_refl _) _).alloc (by simp) _).drew.drew
end Go.Proofs.Ybulkchpk
