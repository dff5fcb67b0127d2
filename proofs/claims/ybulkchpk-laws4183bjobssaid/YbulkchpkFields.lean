/-
  LawS4183BFields: the walk.
-/
import Derived.Test.YbulkchpkOk
import Derived.Test.YbulkchpkStat3
import Derived.Test.YbulkchpkMid
namespace Go.Proofs.Ybulkchpk
open Go.ChangeShapes Go.WideShapes Go.ChangeAt Go.RowKit

theorem statV_one (s0 s1 s2 : ByteArray) (i3 : Int) (f4 : Nat) (i5 : Int) (nm : ByteArray) : (statV s0 s1 s2 i3 f4 i5 nm).all (·.oneCell') = true := by
  simp [Value.oneCell']

theorem recAt_of {w : World} {b : Nat} {t : TypeId} {cs : List Value} {o : Nat} {s0 s1 s2 : ByteArray} {i3 : Int} {f4 : Nat} {i5 nd : Int} {b7 : Bool} (h : Blk w b t cs) (hr : (cs.drop o).take 18 = (recV s0 s1 s2 i3 f4 i5 nd b7).toList) :
    RecAt w b o s0 s1 s2 i3 f4 i5 nd := by
  have g : w.rangeAt b o (recV s0 s1 s2 i3 f4 i5 nd b7).toList := by rw [← hr]; exact h.range o 18
  exact ⟨g 0 _ rfl, g 1 _ rfl, g 10 _ rfl, g 14 _ rfl, g 11 _ rfl, g 12 _ rfl, g 15 _ rfl⟩

theorem Yba.size38 : (Yba.prog.info? 38).map (·.size) = some 8 := by kernel_rfl
/-- The law's own record, as a value. -/
abbrev inV (s0 s1 s2 : ByteArray) (i3 : Int) (f4 : Nat) (i5 i6 : Int) (b7 : Bool) : Array Value :=
  #[.string s0, .string s1, .string s2, .int .i64 i3, .float .f64 f4, .int .i64 i5, .int .i64 i6, .bool b7]

set_option maxRecDepth 100000 in
set_option maxHeartbeats 1000000 in
theorem fields_none (s0 s1 s2 : ByteArray) (i3 : Int) (f4 : Nat) (i5 i6 : Int) (b7 : Bool) (a : Option Addr) (n c : Nat) (ns : Nat → ByteArray) (w : World) (hn : n ≤ 1024) (hs : i6 ≤ 9223372036854775807) (hr : ReadsS w a n ns) (hnd : nodeOf i6 n < 0) :
    Calls Yba.prog 5 #[.agg (inV s0 s1 s2 i3 f4 i5 i6 b7), .slice a n c] w fun e w' =>
      e = .returned (.bool true) ∧ Below w.heap.size w w' := by
  have b0 := Blk.newA w (inV s0 s1 s2 i3 f4 i5 i6 b7) 38
  go_enter Yba.func5, Yba.ntmps5
  go_wp2_with fail
  refine (sched_any a n c ns _ hn (hr.below ((Below.refl _ _).alloc (Nat.le_refl _) _) (Nat.le_refl _))).mono ?_
  rintro e w1 ⟨Sb, L, C, N, rfl, S⟩
  have b1 := b0.below S.bel b0.lt
  have m1 : Below w.heap.size w w1 := ((Below.refl _ _).alloc (Nat.le_refl _) _).trans (S.bel.mono (by simp))
  go_wp2_with (refine wpl_load 38 2 w.heap.size 0 (inV s0 s1 s2 i3 f4 i5 i6 b7).toList rfl _ b1.whole Yba.underlying38 rfl Yba.size38 ?_)
  refine (record_any s0 s1 s2 i3 f4 i5 i6 b7 n hn hs _).mono ?_
  rintro e w2 ⟨rfl, l2⟩
  have b2 := b1.below l2 b1.lt
  have m2 := m1.trans (l2.mono m1.size)
  have z2 := Blk.newA w2 (recV ⟨#[]⟩ ⟨#[]⟩ ⟨#[]⟩ 0 0 0 0 false) 50
  go_wp2_with (refine wpl_store 50 6 16 w2.heap.size 0 (recV s0 s1 s2 i3 f4 i5 (nodeOf i6 n) b7) rfl rfl (z2.there 0 18 (Nat.le_refl _)) Yba.size50 (recV_one s0 s1 s2 i3 f4 i5 (nodeOf i6 n) b7) ?_)
  have y2 := z2.setCells (recV s0 s1 s2 i3 f4 i5 (nodeOf i6 n) b7).toList 0 (Nat.le_refl _)
  rw [over_all _ _ (by rfl)] at y2
  have l3 : Kept [] w2 ((w2.alloc (Obj.cells (recV ⟨#[]⟩ ⟨#[]⟩ ⟨#[]⟩ 0 0 0 0 false) 50)).setCells w2.heap.size 0 (recV s0 s1 s2 i3 f4 i5 (nodeOf i6 n) b7).toList) :=
    Kept.setCells _ 0 ((Kept.refl _ _).alloc _) (.inr (Nat.le_refl _))
  generalize (w2.alloc (Obj.cells (recV ⟨#[]⟩ ⟨#[]⟩ ⟨#[]⟩ 0 0 0 0 false) 50)).setCells w2.heap.size 0 (recV s0 s1 s2 i3 f4 i5 (nodeOf i6 n) b7).toList = w3 at y2 l3 ⊢
  clear z2
  have b3 := l3.blk b2 (by simp)
  have m3 := l3.below m2 m2.size (by simp)
  have ra := recAt_of (o := 0) y2 (by rfl)
  refine (status_none Sb w2.heap.size 0 s0 s1 s2 i3 f4 i5 (nodeOf i6 n) _ ra hnd).mono ?_
  rintro e w4 ⟨rfl, l4⟩
  have y4 := y2.below l4 y2.lt
  have b4 := b3.below l4 b3.lt
  have m4 := m3.trans (l4.mono m3.size)
  have z4 := Blk.newA w4 (statV ⟨#[]⟩ ⟨#[]⟩ ⟨#[]⟩ 0 0 0 ⟨#[]⟩) 53
  have c1 : w4.cell? ⟨w2.heap.size, 15, none⟩ = some (.int .i64 (nodeOf i6 n)) := y4.cell 15 _ rfl
  have c2 : w4.cell? ⟨w2.heap.size, 0, none⟩ = some (.string s0) := y4.cell 0 _ rfl
  have c3 : w4.cell? ⟨w.heap.size, 6, none⟩ = some (.int .i64 i6) := b4.cell 6 _ rfl
  have c4 : w4.cell? ⟨w.heap.size, 0, none⟩ = some (.string s0) := b4.cell 0 _ rfl
  have q1 := y4.lt
  have q2 := b4.lt
  clear l2 l3 l4 b0 b1 b2 b3 m1 m2 m3 y2 ra
  go_wp2_with (refine wpl_store 53 7 18 w4.heap.size 0 (statV s0 s1 s2 i3 f4 i5 ⟨#[]⟩) rfl rfl (z4.there 0 7 (Nat.le_refl _)) Yba.size53 (statV_one s0 s1 s2 i3 f4 i5 ⟨#[]⟩) ?_)
  have y5 := z4.setCells (statV s0 s1 s2 i3 f4 i5 ⟨#[]⟩).toList 0 (Nat.le_refl _)
  rw [over_all _ _ (by rfl)] at y5
  have l5 : Kept [] w4 ((w4.alloc (Obj.cells (statV ⟨#[]⟩ ⟨#[]⟩ ⟨#[]⟩ 0 0 0 ⟨#[]⟩) 53)).setCells w4.heap.size 0 (statV s0 s1 s2 i3 f4 i5 ⟨#[]⟩).toList) :=
    Kept.setCells _ 0 ((Kept.refl _ _).alloc _) (.inr (Nat.le_refl _))
  generalize (w4.alloc (Obj.cells (statV ⟨#[]⟩ ⟨#[]⟩ ⟨#[]⟩ 0 0 0 ⟨#[]⟩) 53)).setCells w4.heap.size 0 (statV s0 s1 s2 i3 f4 i5 ⟨#[]⟩).toList = w5 at y5 l5 ⊢
  clear z4
  have b5 := l5.blk b4 (by simp)
  have m5 := l5.below m4 m4.size (by simp)
  have c1 := (l5.cell (p := ⟨w2.heap.size, 15, none⟩) q1 (by simp)).trans c1
  have c2 := (l5.cell (p := ⟨w2.heap.size, 0, none⟩) q1 (by simp)).trans c2
  have c3 := (l5.cell (p := ⟨w.heap.size, 6, none⟩) q2 (by simp)).trans c3
  have c4 := (l5.cell (p := ⟨w.heap.size, 0, none⟩) q2 (by simp)).trans c4
  have hr5 := hr.below m5 (Nat.le_refl _)
  clear l5 b4 m4 y4 hr
  go_wp2_with fail
  go_quiet ((go_at_call 18; exact Calls.quiet_of_same (node_any _ n hn hs _)))
  go_wp2_with (first
    | (refine wpl_load 53 7 w4.heap.size 0 (statV s0 s1 s2 i3 f4 i5 ⟨#[]⟩).toList rfl _ (y5.drewN _).whole Yba.underlying53 rfl Yba.size53 ?_)
    | (refine wpl_load 38 2 w.heap.size 0 (inV s0 s1 s2 i3 f4 i5 i6 b7).toList rfl _ (b5.drewN _).whole Yba.underlying38 rfl Yba.size38 ?_))
  refine (ok_none' s0 s1 s2 i3 f4 i5 i6 b7 a n c _ hn hs hnd).mono ?_
  rintro e w6 ⟨rfl, l6⟩
  have m6 := m5.trans (((bel_drewN (Below.refl _ _) _).trans l6).mono m5.size)
  go_wp2
  go_ret
  exact ⟨rfl, m6⟩

set_option maxRecDepth 100000 in
set_option maxHeartbeats 1000000 in
theorem fields_some (s0 s1 s2 : ByteArray) (i3 : Int) (f4 : Nat) (i5 i6 : Int) (b7 : Bool) (a : Option Addr) (n c : Nat) (ns : Nat → ByteArray) (w : World) (hn : n ≤ 1024) (hs : i6 ≤ 9223372036854775807) (hr : ReadsS w a n ns) (j : Nat) (hnd : Hid (nodeOf i6 n = (j : Int))) (hj : j < n) :
    Calls Yba.prog 5 #[.agg (inV s0 s1 s2 i3 f4 i5 i6 b7), .slice a n c] w fun e w' =>
      e = .returned (.bool true) ∧ Below w.heap.size w w' := by
  have b0 := Blk.newA w (inV s0 s1 s2 i3 f4 i5 i6 b7) 38
  go_enter Yba.func5, Yba.ntmps5
  go_wp2_with fail
  refine (sched_any a n c ns _ hn (hr.below ((Below.refl _ _).alloc (Nat.le_refl _) _) (Nat.le_refl _))).mono ?_
  rintro e w1 ⟨Sb, L, C, N, rfl, S⟩
  have b1 := b0.below S.bel b0.lt
  have m1 : Below w.heap.size w w1 := ((Below.refl _ _).alloc (Nat.le_refl _) _).trans (S.bel.mono (by simp))
  go_wp2_with (refine wpl_load 38 2 w.heap.size 0 (inV s0 s1 s2 i3 f4 i5 i6 b7).toList rfl _ b1.whole Yba.underlying38 rfl Yba.size38 ?_)
  refine (record_any s0 s1 s2 i3 f4 i5 i6 b7 n hn hs _).mono ?_
  rintro e w2 ⟨rfl, l2⟩
  have b2 := b1.below l2 b1.lt
  have m2 := m1.trans (l2.mono m1.size)
  have z2 := Blk.newA w2 (recV ⟨#[]⟩ ⟨#[]⟩ ⟨#[]⟩ 0 0 0 0 false) 50
  go_wp2_with (refine wpl_store 50 6 16 w2.heap.size 0 (recV s0 s1 s2 i3 f4 i5 (nodeOf i6 n) b7) rfl rfl (z2.there 0 18 (Nat.le_refl _)) Yba.size50 (recV_one s0 s1 s2 i3 f4 i5 (nodeOf i6 n) b7) ?_)
  have y2 := z2.setCells (recV s0 s1 s2 i3 f4 i5 (nodeOf i6 n) b7).toList 0 (Nat.le_refl _)
  rw [over_all _ _ (by rfl)] at y2
  have l3 : Kept [] w2 ((w2.alloc (Obj.cells (recV ⟨#[]⟩ ⟨#[]⟩ ⟨#[]⟩ 0 0 0 0 false) 50)).setCells w2.heap.size 0 (recV s0 s1 s2 i3 f4 i5 (nodeOf i6 n) b7).toList) :=
    Kept.setCells _ 0 ((Kept.refl _ _).alloc _) (.inr (Nat.le_refl _))
  generalize (w2.alloc (Obj.cells (recV ⟨#[]⟩ ⟨#[]⟩ ⟨#[]⟩ 0 0 0 0 false) 50)).setCells w2.heap.size 0 (recV s0 s1 s2 i3 f4 i5 (nodeOf i6 n) b7).toList = w3 at y2 l3 ⊢
  clear z2
  have b3 := l3.blk b2 (by simp)
  have m3 := l3.below m2 m2.size (by simp)
  have ra := recAt_of (o := 0) y2 (by rfl)
  rw [hnd.out] at ra
  have e1 := l3.blk (S.k0.below l2 S.k0.lt) (by simp)
  have p2 := block_lt_of_cell (a := ⟨L, 0, none⟩) S.k2
  have p3 := block_lt_of_cell (a := ⟨C, 1, none⟩) S.k3
  have p4 := block_lt_of_cell (a := ⟨N, j * 6, none⟩) (S.k4 j hj)
  have p0 := l2.size
  simp only at p2 p3 p4
  refine (status_some Sb L C N n j w2.heap.size 0 (pre (ns j)) s0 s1 s2 i3 f4 i5 _ ra hj (e1.cell 0 _ rfl)
    ((l3.cell (p := ⟨L, 0, none⟩) (by show L < w2.heap.size; omega) (by simp)).trans ((l2.cell (p := ⟨L, 0, none⟩) p2).trans S.k2))
    ((l3.cell (p := ⟨C, 1, none⟩) (by show C < w2.heap.size; omega) (by simp)).trans ((l2.cell (p := ⟨C, 1, none⟩) p3).trans S.k3))
    ((l3.cell (p := ⟨N, j * 6, none⟩) (by show N < w2.heap.size; omega) (by simp)).trans ((l2.cell (p := ⟨N, j * 6, none⟩) p4).trans (S.k4 j hj)))).mono ?_
  rintro e w4 ⟨rfl, l4⟩
  have y4 := y2.below l4 y2.lt
  have b4 := b3.below l4 b3.lt
  have m4 := m3.trans (l4.mono m3.size)
  have z4 := Blk.newA w4 (statV ⟨#[]⟩ ⟨#[]⟩ ⟨#[]⟩ 0 0 0 ⟨#[]⟩) 53
  have c1 : w4.cell? ⟨w2.heap.size, 15, none⟩ = some (.int .i64 (nodeOf i6 n)) := y4.cell 15 _ rfl
  have c2 : w4.cell? ⟨w2.heap.size, 0, none⟩ = some (.string s0) := y4.cell 0 _ rfl
  have c3 : w4.cell? ⟨w.heap.size, 6, none⟩ = some (.int .i64 i6) := b4.cell 6 _ rfl
  have c4 : w4.cell? ⟨w.heap.size, 0, none⟩ = some (.string s0) := b4.cell 0 _ rfl
  have q1 := y4.lt
  have q2 := b4.lt
  clear e1 l2 l3 l4 b0 b1 b2 b3 m1 m2 m3 y2 ra
  go_wp2_with (refine wpl_store 53 7 18 w4.heap.size 0 (statV s0 s1 s2 i3 f4 i5 (pre (ns j))) rfl rfl (z4.there 0 7 (Nat.le_refl _)) Yba.size53 (statV_one s0 s1 s2 i3 f4 i5 (pre (ns j))) ?_)
  have y5 := z4.setCells (statV s0 s1 s2 i3 f4 i5 (pre (ns j))).toList 0 (Nat.le_refl _)
  rw [over_all _ _ (by rfl)] at y5
  have l5 : Kept [] w4 ((w4.alloc (Obj.cells (statV ⟨#[]⟩ ⟨#[]⟩ ⟨#[]⟩ 0 0 0 ⟨#[]⟩) 53)).setCells w4.heap.size 0 (statV s0 s1 s2 i3 f4 i5 (pre (ns j))).toList) :=
    Kept.setCells _ 0 ((Kept.refl _ _).alloc _) (.inr (Nat.le_refl _))
  generalize (w4.alloc (Obj.cells (statV ⟨#[]⟩ ⟨#[]⟩ ⟨#[]⟩ 0 0 0 ⟨#[]⟩) 53)).setCells w4.heap.size 0 (statV s0 s1 s2 i3 f4 i5 (pre (ns j))).toList = w5 at y5 l5 ⊢
  clear z4
  have b5 := l5.blk b4 (by simp)
  have m5 := l5.below m4 m4.size (by simp)
  have c1 := (l5.cell (p := ⟨w2.heap.size, 15, none⟩) q1 (by simp)).trans c1
  have c2 := (l5.cell (p := ⟨w2.heap.size, 0, none⟩) q1 (by simp)).trans c2
  have c3 := (l5.cell (p := ⟨w.heap.size, 6, none⟩) q2 (by simp)).trans c3
  have c4 := (l5.cell (p := ⟨w.heap.size, 0, none⟩) q2 (by simp)).trans c4
  have hr5 := hr.below m5 (Nat.le_refl _)
  clear l5 b4 m4 y4 hr
  go_wp2_with fail
  go_quiet ((go_at_call 18; exact Calls.quiet_of_same (node_any _ n hn hs _)))
  go_wp2_with (first
    | (refine wpl_load 53 7 w4.heap.size 0 (statV s0 s1 s2 i3 f4 i5 (pre (ns j))).toList rfl _ (y5.drewN _).whole Yba.underlying53 rfl Yba.size53 ?_)
    | (refine wpl_load 38 2 w.heap.size 0 (inV s0 s1 s2 i3 f4 i5 i6 b7).toList rfl _ (b5.drewN _).whole Yba.underlying38 rfl Yba.size38 ?_))
  obtain ⟨b, off, rfl, hlt, hcn, hzn⟩ : ∃ b off, a = some ⟨b, off, none⟩ ∧ b < w5.heap.size ∧ (∀ j, j < n → w5.cell? ⟨b, off + j, none⟩ = some (.string (ns j))) ∧ ∀ j, j < n → (ns j).size ≤ 140737488351232 := by
    rcases hr5 with hr5 | hr5
    · omega
    · exact hr5
  refine (ok_some' s0 s1 s2 i3 f4 i5 i6 b7 b off n c j (ns j) _ hn hs hnd.out hj (by exact hlt) (by exact hcn j hj) (hzn j hj)).mono ?_
  rintro e w6 ⟨rfl, l6⟩
  have m6 := m5.trans (((bel_drewN (Below.refl _ _) _).trans l6).mono m5.size)
  go_wp2
  go_ret
  exact ⟨rfl, m6⟩
end Go.Proofs.Ybulkchpk
