/-
  zzs4183cbuild by its contract.
-/
import Derived.Test.YbulkchpkPad
import Derived.Test.YbulkchpkOccupy
namespace Go.Proofs.Ybulkchpk
open Go.ChangeShapes Go.WideShapes Go.ChangeAt Go.RowKit

/-- What build makes: the cluster C, its nodes N with their rows, its two rows of maxima; all new, each apart from the other. -/
structure Made (w w' : World) (C N F0 R0 F1 R1 FM RM k : Nat) (aimed : Bool) (rf : Int) (f r fm rm : Nat → Int) : Prop where
  c0 : Clu w' C N (6 * 0) F0 R0 FM RM k aimed rf
  c1 : Clu w' C N (6 * 1) F1 R1 FM RM k aimed rf
  f0 : Blk w' F0 2 (row k f)
  r0 : Blk w' R0 2 (row k r)
  f1 : Blk w' F1 2 (row k r)
  r1 : Blk w' R1 2 (row k f)
  fm : Blk w' FM 2 (row k fm)
  rm : Blk w' RM 2 (row k rm)
  o0 : w.heap.size ≤ F0
  o1 : F0 < R0
  o2 : R0 < F1
  o3 : F1 < R1
  o4 : R1 < N
  o5 : N < FM
  o6 : FM < RM
  o7 : RM < C
  bel : Below w.heap.size w w'

set_option maxRecDepth 100000 in
set_option maxHeartbeats 2000000 in
theorem build_any (a0 a1 a2 a3 : Option Addr) (n0 n1 n2 n3 p0 p1 p2 p3 k : Nat) (aimed : Bool) (rf : Int) (f r fm rm : Nat → Int) (w : World) (hk : k ≤ 1024)
    (h0 : Reads w a0 n0 f) (h1 : Reads w a1 n1 r) (h2 : Reads w a2 n2 fm) (h3 : Reads w a3 n3 rm) :
    Calls Yba.prog 21 #[.slice a0 n0 p0, .slice a1 n1 p1, .slice a2 n2 p2, .slice a3 n3 p3, .int .i64 k, .bool aimed, .int .i64 rf] w fun e w' =>
      ∃ C N F0 R0 F1 R1 FM RM, e = .returned (.pointer (some ⟨C, 0, none⟩)) ∧ Made w w' C N F0 R0 F1 R1 FM RM k aimed rf (padF n0 f) (padF n1 r) (padF n2 fm) (padF n3 rm) := by
  go_enter Yba.func21, Yba.ntmps21
  go_wp2_with fail
  refine (pad_any a0 n0 p0 k f _ hk h0).mono ?_
  rintro e w1 ⟨rfl, b1, l1⟩
  have g1 := b1.lt
  have m1 := l1
  go_wp2_with fail
  refine (pad_any a1 n1 p1 k r _ hk (h1.below m1 (Nat.le_refl _))).mono ?_
  rintro e w2 ⟨rfl, b2, l2⟩
  have g2 := b2.lt
  have m2 := m1.trans (l2.mono (Nat.le_of_lt g1))
  go_wp2_with fail
  refine (pad_any a1 n1 p1 k r _ hk (h1.below m2 (Nat.le_refl _))).mono ?_
  rintro e w3 ⟨rfl, b3, l3⟩
  have g3 := b3.lt
  have m3 := m2.trans (l3.mono (by omega))
  go_wp2_with fail
  refine (pad_any a0 n0 p0 k f _ hk (h0.below m3 (Nat.le_refl _))).mono ?_
  rintro e w4 ⟨rfl, b4, l4⟩
  have g4 := b4.lt
  have m4 := m3.trans (l4.mono (by omega))
  go_wp2_with fail
  refine (pad_any a2 n2 p2 k fm _ hk (h2.below (m4.alloc (by omega) _) (Nat.le_refl _))).mono ?_
  rintro e w5 ⟨rfl, b5, l5⟩
  have g5 := b5.lt
  simp only [World.size_alloc] at b5 l5 g5
  have bN := (Blk.newA w4 _ 80).below l5 (Nat.lt_succ_self _)
  have m5 := (m4.alloc (by omega) _).trans (l5.mono (by omega))
  have y1 := (((((b1.below l2 (by omega)).below l3 (by omega)).below l4 (by omega)).alloc _).below l5 (by omega))
  have y2 := ((((b2.below l3 (by omega)).below l4 (by omega)).alloc _).below l5 (by omega))
  have y3 := (((b3.below l4 (by omega)).alloc _).below l5 (by omega))
  have y4 := ((b4.alloc _).below l5 (by omega))
  clear b1 b2 b3 b4 l1 l2 l3 l4 l5 m1 m2 m3 m4 h0 h1 h2
  go_wp2_with fail
  refine (pad_any a3 n3 p3 k rm _ hk (h3.below m5 (Nat.le_refl _))).mono ?_
  rintro e w6 ⟨rfl, b6, l6⟩
  have g6 := b6.lt
  have m6 := m5.trans (l6.mono (by omega))
  have x1 := y1.below l6 (by omega)
  have x2 := y2.below l6 (by omega)
  have x3 := y3.below l6 (by omega)
  have x4 := y4.below l6 (by omega)
  have x5 := b5.below l6 (by omega)
  have xN := bN.below l6 (by omega)
  clear y1 y2 y3 y4 b5 bN l6 m5 h3
  go_wp2
  go_ret
  refine ⟨_, w4.heap.size, w.heap.size, w1.heap.size, w2.heap.size, w3.heap.size, w4.heap.size + 1, w5.heap.size, rfl, ?_⟩
  have bC := Blk.newA w6 #[.slice none 0 0, .slice (some ⟨w4.heap.size, 0, none⟩) 2 2, .slice none 0 0, .slice none 0 0, .nilFunc, .slice none 0 0, .int .i64 0, .slice (some ⟨w4.heap.size + 1, 0, none⟩) k k, .pointer none, .slice none 0 0, .int .i64 rf, .bool aimed, .slice (some ⟨w5.heap.size, 0, none⟩) k k, .int .i64 0, .bool false, .int .i64 0, .int .i64 0, .pointer none, .int .i64 0, .int .i64 0, .int .i64 0, .slice none 0 0, .slice none 0 0, .slice none 0 0, .slice none 0 0] 91
  have zN := xN.alloc (.cells #[.slice none 0 0, .slice (some ⟨w4.heap.size, 0, none⟩) 2 2, .slice none 0 0, .slice none 0 0, .nilFunc, .slice none 0 0, .int .i64 0, .slice (some ⟨w4.heap.size + 1, 0, none⟩) k k, .pointer none, .slice none 0 0, .int .i64 rf, .bool aimed, .slice (some ⟨w5.heap.size, 0, none⟩) k k, .int .i64 0, .bool false, .int .i64 0, .int .i64 0, .pointer none, .int .i64 0, .int .i64 0, .int .i64 0, .slice none 0 0, .slice none 0 0, .slice none 0 0, .slice none 0 0] 91)
  exact {
    c0 := ⟨bC.cell 1 _ rfl, bC.cell 7 _ rfl, bC.cell 10 _ rfl, bC.cell 11 _ rfl, bC.cell 12 _ rfl, zN.cell 2 _ rfl, zN.cell 4 _ rfl⟩
    c1 := ⟨bC.cell 1 _ rfl, bC.cell 7 _ rfl, bC.cell 10 _ rfl, bC.cell 11 _ rfl, bC.cell 12 _ rfl, zN.cell 8 _ rfl, zN.cell 10 _ rfl⟩
    f0 := x1.alloc _, r0 := x2.alloc _, f1 := x3.alloc _, r1 := x4.alloc _, fm := x5.alloc _, rm := b6.alloc _
    o0 := Nat.le_refl _, o1 := g1, o2 := g2, o3 := g3, o4 := g4, o5 := Nat.lt_succ_self _, o6 := g5, o7 := g6, bel := m6.alloc (by omega) _ }
end Go.Proofs.Ybulkchpk
