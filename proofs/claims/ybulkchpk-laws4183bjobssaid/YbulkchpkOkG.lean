/-
  zzs4183bok by its contract once more: what it lays behind the world, block by block.
-/
import Derived.Test.YbulkchpkRecs
import Derived.Shelf.SlSortCmp.QuietGrown
namespace Go.Proofs.Ybulkchpk
open Go.ChangeShapes Go.WideShapes Go.ChangeAt Go.RowKit

/-- From w by draws and new blocks alone. -/
def Grew (w w' : World) : Prop := ∃ q os, w' = Sort.grow (w.drewN q) os
theorem grew_two (w : World) (x y : Obj) (n : Nat) : Grew w (((w.alloc x).alloc y).drewN n) := ⟨n, #[x] ++ #[y], by
  rw [Sort.alloc_eq_grow, Sort.alloc_eq_grow, Sort.grow_grow]; rfl⟩

set_option maxRecDepth 100000 in
set_option maxHeartbeats 1000000 in
theorem okg_none (s0 s1 s2 : ByteArray) (i3 : Int) (f4 : Nat) (i5 i6 : Int) (b7 : Bool) (a : Option Addr) (n c : Nat) (w : World) (hn : n ≤ 1024) (hs : i6 ≤ 9223372036854775807) (hnd : nodeOf i6 n < 0) :
    Calls Yba.prog 19 #[.agg (statV s0 s1 s2 i3 f4 i5 ⟨#[]⟩), .agg #[.string s0, .string s1, .string s2, .int .i64 i3, .float .f64 f4, .int .i64 i5, .int .i64 i6, .bool b7], .slice a n c] w fun e w' =>
      e = .returned (.bool true) ∧ Grew w w' := by
  have hd : decide (0 ≤ nodeOf i6 n) = false := by simpa using hnd
  have hx := Yba.run29
  go_enter Yba.func19, Yba.ntmps19
  go_wp2_with (go_at_call 18; refine (node_any _ n hn hs _).mono ?_; rintro e w' ⟨rfl, rfl⟩)
  go_quiet (fail)
  go_wp2
  go_ret
  exact ⟨rfl, grew_two _ _ _ _⟩

set_option maxRecDepth 100000 in
set_option maxHeartbeats 1000000 in
theorem okg_some (s0 s1 s2 : ByteArray) (i3 : Int) (f4 : Nat) (i5 i6 : Int) (b7 : Bool) (b off n c j : Nat) (nm : ByteArray) (w : World) (hn : n ≤ 1024) (hs : i6 ≤ 9223372036854775807) (hnd : nodeOf i6 n = (j : Int)) (hj : j < n)
    (hb : b < w.heap.size) (hc : w.cell? ⟨b, off + j, none⟩ = some (.string nm)) (hz : nm.size ≤ 140737488351232) :
    Calls Yba.prog 19 #[.agg (statV s0 s1 s2 i3 f4 i5 (pre nm)), .agg #[.string s0, .string s1, .string s2, .int .i64 i3, .float .f64 f4, .int .i64 i5, .int .i64 i6, .bool b7], .slice (some ⟨b, off, none⟩) n c] w fun e w' =>
      e = .returned (.bool true) ∧ Grew w w' := by
  have hx := Yba.run29
  have r1 := pre_room nm hz
  have t1 : (j : Int) < (n : Int) := by omega
  unfold pre
  clear hz
  go_enter Yba.func19, Yba.ntmps19
  go_wp2_with (go_at_call 18; refine (node_any _ n hn hs _).mono ?_; rintro e w' ⟨rfl, rfl⟩)
  go_quiet (fail)
  go_wp2
  go_ret
  exact ⟨rfl, grew_two _ _ _ _⟩

theorem okg_all (r : Rec) (a : Option Addr) (n c : Nat) (ns : Nat → ByteArray) (w : World) (hn : n ≤ 1024) (hs : r.i6 ≤ 9223372036854775807) (hr : ReadsS w a n ns) :
    Calls Yba.prog 19 #[.agg (r.statA n ns), .agg r.inA, .slice a n c] w fun e w' => e = .returned (.bool true) ∧ Grew w w' := by
  by_cases hnd : nodeOf r.i6 n < 0
  · have e : nodeName ns n r.i6 = ⟨#[]⟩ := by simp [nodeName, hnd]
    unfold Rec.statA
    rw [e]
    exact okg_none r.s0 r.s1 r.s2 r.i3 r.f4 r.i5 r.i6 r.b7 a n c w hn hs hnd
  · obtain ⟨j, hj, hjn⟩ := nodeOf_lt r.i6 n hnd
    have e : nodeName ns n r.i6 = pre (ns j) := by simp [nodeName, hj]; omega
    unfold Rec.statA
    rw [e]
    rcases hr with h | ⟨b, off, rfl, hlt, hc, hz⟩
    · omega
    exact okg_some r.s0 r.s1 r.s2 r.i3 r.f4 r.i5 r.i6 r.b7 b off n c j (ns j) w hn hs hj hjn hlt (hc j hjn) (hz j hjn)
end Go.Proofs.Ybulkchpk
