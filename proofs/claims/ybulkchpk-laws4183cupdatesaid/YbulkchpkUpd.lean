/-
  LawS4183CUpdate: what the walk stands on.
-/
import Derived.Test.YbulkchpkBuild
namespace Go.Proofs.Ybulkchpk
open Go.ChangeShapes Go.WideShapes Go.ChangeAt Go.RowKit

/-- What build makes, seen from the node ni (the other one: 1 - ni). -/
structure Sides (w w' : World) (C N F R F' R' FM RM ni oi k : Nat) (aimed : Bool) (rf : Int) (f r f' r' fm rm : Nat → Int) : Prop where
  c0 : Clu w' C N (6 * ni) F R FM RM k aimed rf
  c1 : Clu w' C N (6 * oi) F' R' FM RM k aimed rf
  f0 : Blk w' F 2 (row k f)
  r0 : Blk w' R 2 (row k r)
  f1 : Blk w' F' 2 (row k f')
  r1 : Blk w' R' 2 (row k r')
  fm : Blk w' FM 2 (row k fm)
  rm : Blk w' RM 2 (row k rm)
  own : ∀ x ∈ [F, R, FM, RM], w.heap.size ≤ x
  apart : ∀ x ∈ [F, R, FM, RM], x ≠ C ∧ x ≠ N ∧ x ≠ F' ∧ x ≠ R'
  d1 : F ≠ R
  d2 : F ≠ FM
  d3 : F ≠ RM
  d4 : R ≠ FM
  d5 : R ≠ RM
  d6 : FM ≠ RM
  bel : Below w.heap.size w w'

theorem Made.zero {w w' : World} {C N F0 R0 F1 R1 FM RM k : Nat} {aimed : Bool} {rf : Int} {f r fm rm : Nat → Int} (h : Made w w' C N F0 R0 F1 R1 FM RM k aimed rf f r fm rm) :
    Sides w w' C N F0 R0 F1 R1 FM RM 0 1 k aimed rf f r r f fm rm := by
  have o0 := h.o0; have o1 := h.o1; have o2 := h.o2; have o3 := h.o3; have o4 := h.o4; have o5 := h.o5; have o6 := h.o6; have o7 := h.o7
  exact ⟨h.c0, h.c1, h.f0, h.r0, h.f1, h.r1, h.fm, h.rm, by simp; omega, by simp; omega, by omega, by omega, by omega, by omega, by omega, by omega, h.bel⟩
theorem Made.one {w w' : World} {C N F0 R0 F1 R1 FM RM k : Nat} {aimed : Bool} {rf : Int} {f r fm rm : Nat → Int} (h : Made w w' C N F0 R0 F1 R1 FM RM k aimed rf f r fm rm) :
    Sides w w' C N F1 R1 F0 R0 FM RM 1 0 k aimed rf r f f r fm rm := by
  have o0 := h.o0; have o1 := h.o1; have o2 := h.o2; have o3 := h.o3; have o4 := h.o4; have o5 := h.o5; have o6 := h.o6; have o7 := h.o7
  exact ⟨h.c1, h.c0, h.f1, h.r1, h.f0, h.r0, h.fm, h.rm, by simp; omega, by simp; omega, by omega, by omega, by omega, by omega, by omega, by omega, h.bel⟩

theorem build_side (ni oi : Nat) (hni : ni = 0 ∧ oi = 1 ∨ ni = 1 ∧ oi = 0) (a0 a1 a2 a3 : Option Addr) (n0 n1 n2 n3 p0 p1 p2 p3 k : Nat) (aimed : Bool) (rf : Int) (f r fm rm : Nat → Int) (w : World) (hk : k ≤ 1024)
    (h0 : Reads w a0 n0 f) (h1 : Reads w a1 n1 r) (h2 : Reads w a2 n2 fm) (h3 : Reads w a3 n3 rm) :
    Calls Yba.prog 21 #[.slice a0 n0 p0, .slice a1 n1 p1, .slice a2 n2 p2, .slice a3 n3 p3, .int .i64 k, .bool aimed, .int .i64 rf] w fun e w' =>
      ∃ C N F R F' R' FM RM ff rr ff' rr', e = .returned (.pointer (some ⟨C, 0, none⟩)) ∧ Sides w w' C N F R F' R' FM RM ni oi k aimed rf ff rr ff' rr' (padF n2 fm) (padF n3 rm) := by
  refine (build_any a0 a1 a2 a3 n0 n1 n2 n3 p0 p1 p2 p3 k aimed rf f r fm rm w hk h0 h1 h2 h3).mono ?_
  rintro e w' ⟨C, N, F0, R0, F1, R1, FM, RM, rfl, h⟩
  rcases hni with ⟨rfl, rfl⟩ | ⟨rfl, rfl⟩
  · exact ⟨C, N, F0, R0, F1, R1, FM, RM, _, _, _, _, rfl, h.zero⟩
  · exact ⟨C, N, F1, R1, F0, R0, FM, RM, _, _, _, _, rfl, h.one⟩

theorem mv_up (x a : Int) : mv 1 x a = wrap64 (x - a) := by unfold mv wrap64; omega
theorem mv_down (x a : Int) : mv (-1) x a = wrap64 (x + a) := by unfold mv wrap64; omega
theorem padF_self (k : Nat) (f : Nat → Int) (i : Nat) (h : i < k) : padF k f i = f i := by simp [padF, h]

end Go.Proofs.Ybulkchpk
