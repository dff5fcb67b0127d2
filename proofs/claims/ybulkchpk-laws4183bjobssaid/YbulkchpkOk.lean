/-
  zzs4183bok by its contract: the status that status makes is found right.
-/
import Derived.Test.YbulkchpkSched
import Derived.Test.YbulkchpkStat2
import Derived.Laws.Externs
namespace Go.Proofs.Ybulkchpk
open Go.ChangeShapes Go.WideShapes Go.ChangeAt Go.RowKit

theorem Yba.run29 (b : Nat) (w : World) : (callFunc 29 #[.float .f64 b]).run Yba.prog w = .ok (.value (.int .u64 b)) w := by
  rw [run_callFunc_extern (e := Extern.MathFloatBits.float64bits) Yba.func29 (by kernel_rfl) (by kernel_rfl) (by kernel_rfl) (by kernel_rfl)]
  rfl

set_option maxRecDepth 100000 in
set_option maxHeartbeats 1000000 in
theorem ok_none' (s0 s1 s2 : ByteArray) (i3 : Int) (f4 : Nat) (i5 i6 : Int) (b7 : Bool) (a : Option Addr) (n c : Nat) (w : World) (hn : n ≤ 1024) (hs : i6 ≤ 9223372036854775807) (hnd : nodeOf i6 n < 0) :
    Calls Yba.prog 19 #[.agg (statV s0 s1 s2 i3 f4 i5 ⟨#[]⟩), .agg #[.string s0, .string s1, .string s2, .int .i64 i3, .float .f64 f4, .int .i64 i5, .int .i64 i6, .bool b7], .slice a n c] w fun e w' =>
      e = .returned (.bool true) ∧ Below w.heap.size w w' := by
  have hd : decide (0 ≤ nodeOf i6 n) = false := by simpa using hnd
  have hx := Yba.run29
  go_enter Yba.func19, Yba.ntmps19
  go_wp2_with (go_at_call 18; refine (node_any _ n hn hs _).mono ?_; rintro e w' ⟨rfl, rfl⟩)
  go_quiet (fail)
  go_wp2
  go_ret
  exact ⟨rfl, bel_drewN (((Below.refl _ _).alloc (Nat.le_refl _) _).alloc (by simp) _) _⟩

set_option maxRecDepth 100000 in
set_option maxHeartbeats 1000000 in
theorem ok_some' (s0 s1 s2 : ByteArray) (i3 : Int) (f4 : Nat) (i5 i6 : Int) (b7 : Bool) (b off n c j : Nat) (nm : ByteArray) (w : World) (hn : n ≤ 1024) (hs : i6 ≤ 9223372036854775807) (hnd : nodeOf i6 n = (j : Int)) (hj : j < n)
    (hb : b < w.heap.size) (hc : w.cell? ⟨b, off + j, none⟩ = some (.string nm)) (hz : nm.size ≤ 140737488351232) :
    Calls Yba.prog 19 #[.agg (statV s0 s1 s2 i3 f4 i5 (pre nm)), .agg #[.string s0, .string s1, .string s2, .int .i64 i3, .float .f64 f4, .int .i64 i5, .int .i64 i6, .bool b7], .slice (some ⟨b, off, none⟩) n c] w fun e w' =>
      e = .returned (.bool true) ∧ Below w.heap.size w w' := by
  have hx := Yba.run29
  have r1 := pre_room nm hz
  have t1 : (j : Int) < (n : Int) := by omega
  unfold pre
  clear hz
  go_enter Yba.func19, Yba.ntmps19
  go_wp2_with (go_at_call 18; refine (node_any _ n hn hs _).mono ?_; rintro e w' ⟨rfl, rfl⟩)
  go_quiet (fail)
  go_wp2
  go_ret
  exact ⟨rfl, bel_drewN (((Below.refl _ _).alloc (Nat.le_refl _) _).alloc (by simp) _) _⟩
end Go.Proofs.Ybulkchpk
