/-
  (*Scheduler).status by its contract.
-/
import Derived.Test.YbulkchpkStat
namespace Go.Proofs.Ybulkchpk
open Go.ChangeShapes Go.WideShapes Go.ChangeAt Go.RowKit
attribute [local go_sem] run_store_float

/-- A record in memory, as far as it is read. -/
structure RecAt (w : World) (b o : Nat) (s0 s1 s2 : ByteArray) (i3 : Int) (f4 : Nat) (i5 nd : Int) : Prop where
  c0 : w.cell? ⟨b, o, none⟩ = some (.string s0)
  c1 : w.cell? ⟨b, o + 1, none⟩ = some (.string s1)
  c2 : w.cell? ⟨b, o + 10, none⟩ = some (.string s2)
  c3 : w.cell? ⟨b, o + 14, none⟩ = some (.int .i64 i3)
  c4 : w.cell? ⟨b, o + 11, none⟩ = some (.float .f64 f4)
  c5 : w.cell? ⟨b, o + 12, none⟩ = some (.int .i64 i5)
  c6 : w.cell? ⟨b, o + 15, none⟩ = some (.int .i64 nd)

/-- A status as a value. -/
abbrev statV (s0 s1 s2 : ByteArray) (i3 : Int) (f4 : Nat) (i5 : Int) (nm : ByteArray) : Array Value :=
  #[.string s0, .string s1, .int .i64 i3, .string nm, .string s2, .float .f64 f4, .int .i64 i5]

theorem Yba.size53 : (Yba.prog.info? 53).map (·.size) = some 7 := by kernel_rfl

set_option maxRecDepth 100000 in
set_option maxHeartbeats 1000000 in
theorem status_none (Sb b o : Nat) (s0 s1 s2 : ByteArray) (i3 : Int) (f4 : Nat) (i5 nd : Int) (w : World) (hr : RecAt w b o s0 s1 s2 i3 f4 i5 nd) (hnd : nd < 0) :
    Calls Yba.prog 17 #[.pointer (some ⟨Sb, 0, none⟩), .pointer (some ⟨b, o, none⟩)] w fun e w' =>
      e = .returned (.agg (statV s0 s1 s2 i3 f4 i5 ⟨#[]⟩)) ∧ Below w.heap.size w w' := by
  obtain ⟨c0, c1, c2, c3, c4, c5, c6⟩ := hr
  have hb := block_lt_of_cell (a := ⟨b, o, none⟩) c0
  simp only at hb
  go_enter Yba.func17, Yba.ntmps17
  go_wp2
  go_region
  go_wp2
  refine bodyPost_ret (v := .agg (statV s0 s1 s2 i3 f4 i5 ⟨#[]⟩)) (results_cell Yba.results17 _ _ _ ⟨w.heap.size, 0, none⟩ _ rfl (run_loadVar_mid _ _ 0 53 _ _ (((Blk.newA w (statV s0 s1 s2 i3 f4 i5 ⟨#[]⟩) 53).alloc _).drew.whole) Yba.underlying53 rfl Yba.size53)) rfl ⟨rfl, ?_⟩
  exact (((Below.refl _ _).alloc (Nat.le_refl _) _).alloc (by simp) _).drew

end Go.Proofs.Ybulkchpk
