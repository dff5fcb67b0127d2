/-
  LawS4183CUpdate: the walk, where pick is odd and up is true: not aimed; aimed and moved; aimed and not moved.
-/
import Derived.Test.YbulkchpkUpd
namespace Go.Proofs.Ybulkchpk
open Go.ChangeShapes Go.WideShapes Go.ChangeAt Go.RowKit

set_option maxRecDepth 100000 in
set_option maxHeartbeats 4000000 in
theorem upd_1_true_A (a0 a1 a2 a3 a4 : Option Addr) (n0 n1 n2 n3 p0 p1 p2 p3 p4 k : Nat) (pick : Int) (level rf : Int) (f r fm rm am : Nat → Int) (w : World) (hk : k ≤ 1024)
    (h0 : Reads w a0 n0 f) (h1 : Reads w a1 n1 r) (h2 : Reads w a2 n2 fm) (h3 : Reads w a3 n3 rm) (h4 : Reads w a4 k am) (hp : pick % 2 = 1) (hp0 : 0 ≤ pick) (hp1 : pick ≤ 255) :
    Calls Yba.prog 7 #[.slice a0 n0 p0, .slice a1 n1 p1, .slice a2 n2 p2, .slice a3 n3 p3, .slice a4 k p4, .int .u8 pick, .bool true, .bool false, .int .i64 level, .int .i64 rf] w fun e w' => e = .returned (.bool true) ∧ Below w.heap.size w w' := by
  go_enter Yba.func7, Yba.ntmps7
  go_wp2_with fail
  refine (build_side 1 0 (by simp) a0 a1 a2 a3 n0 n1 n2 n3 p0 p1 p2 p3 k false rf f r fm rm w hk h0 h1 h2 h3).mono ?_
  rintro e w1 ⟨C, N, F, R, F', R', FM, RM, gf, gr, gf', gr', rfl, S⟩
  clear h0 h1
  have lC := block_lt_of_cell (a := ⟨C, 1, none⟩) S.c0.nodes
  have lN := block_lt_of_cell (a := ⟨N, 8, none⟩) S.c0.free
  have e1 := S.c0.nodes
  have e2 : w1.cell? ⟨N, 8, none⟩ = some (.slice (some ⟨F, 0, none⟩) k k) := S.c0.free
  go_wp2_with fail
  refine (pad_any _ k k k gf _ hk S.f0.reads).mono ?_
  rintro e w2 ⟨rfl, b2, l2⟩
  have g2 := b2.lt
  clear e1 e2
  have e1 := (l2.cell (p := ⟨C, 1, none⟩) lC).trans S.c0.nodes
  have e2 : w2.cell? ⟨N, 10, none⟩ = some (.slice (some ⟨R, 0, none⟩) k k) := (l2.cell (p := ⟨N, 10, none⟩) lN).trans S.c0.reach
  go_wp2_with fail
  refine (pad_any _ k k k gr _ hk (S.r0.reads.below l2 (Nat.le_refl _))).mono ?_
  rintro e w3 ⟨rfl, b3, l3⟩
  have g3 := b3.lt
  have m3 := l2.trans (l3.mono (Nat.le_of_lt g2))
  clear e1 e2
  have e1 := (m3.cell (p := ⟨C, 1, none⟩) lC).trans S.c0.nodes
  have e2 : w3.cell? ⟨N, 2, none⟩ = some (.slice (some ⟨F', 0, none⟩) k k) := (m3.cell (p := ⟨N, 2, none⟩) lN).trans S.c1.free
  go_wp2_with fail
  refine (pad_any _ k k k gf' _ hk (S.f1.reads.below m3 (Nat.le_refl _))).mono ?_
  rintro e w4 ⟨rfl, b4, l4⟩
  have g4 := b4.lt
  have m4 := m3.trans (l4.mono (by omega))
  clear e1 e2
  have e1 := (m4.cell (p := ⟨C, 1, none⟩) lC).trans S.c0.nodes
  have e2 : w4.cell? ⟨N, 4, none⟩ = some (.slice (some ⟨R', 0, none⟩) k k) := (m4.cell (p := ⟨N, 4, none⟩) lN).trans S.c1.reach
  go_wp2_with fail
  refine (pad_any _ k k k gr' _ hk (S.r1.reads.below m4 (Nat.le_refl _))).mono ?_
  rintro e w5 ⟨rfl, b5, l5⟩
  have g5 := b5.lt
  have m5 := m4.trans (l5.mono (by omega))
  have s0 := S.bel
  have s1 := s0.size
  have m5' := s0.trans (m5.mono s1)
  go_wp2_with fail
  refine (pad_any a2 n2 p2 k fm _ hk (h2.below m5' (Nat.le_refl _))).mono ?_
  rintro e w6 ⟨rfl, b6, l6⟩
  have g6 := b6.lt
  have m6 := m5.trans (l6.mono (by omega))
  have m6' := s0.trans (m6.mono s1)
  go_wp2_with fail
  refine (pad_any a3 n3 p3 k rm _ hk (h3.below m6' (Nat.le_refl _))).mono ?_
  rintro e w7 ⟨rfl, b7, l7⟩
  have g7 := b7.lt
  have m7 := m6.trans (l7.mono (by omega))
  have m7' := s0.trans (m7.mono s1)
  go_wp2_with fail
  refine (pad_any a4 k p4 k am _ hk (h4.below m7' (Nat.le_refl _))).mono ?_
  rintro e w8 ⟨rfl, b8, l8⟩
  have g8 := b8.lt
  have m8 := m7.trans (l8.mono (by omega))
  have m8' := s0.trans (m8.mono s1)
  have q7 := b7.below l8 (by omega)
  have q6 := (b6.below l7 (by omega)).below l8 (by omega)
  have q5 := ((b5.below l6 (by omega)).below l7 (by omega)).below l8 (by omega)
  have q4 := (((b4.below l5 (by omega)).below l6 (by omega)).below l7 (by omega)).below l8 (by omega)
  have q3 := ((((b3.below l4 (by omega)).below l5 (by omega)).below l6 (by omega)).below l7 (by omega)).below l8 (by omega)
  have q2 := (((((b2.below l3 (by omega)).below l4 (by omega)).below l5 (by omega)).below l6 (by omega)).below l7 (by omega)).below l8 (by omega)
  clear b2 b3 b4 b5 b6 b7 l2 l3 l4 l5 l6 l7 l8 e1 e2 m3 m4 m5 m6 m7 m5' m6' m7' h2 h3
  go_wp2_with fail
  have tF := S.f0.lt
  have tR := S.r0.lt
  have tFM := S.fm.lt
  have tRM := S.rm.lt
  have D : Apart F FM R RM w7.heap.size C N :=
    { f1 := S.d2, f2 := S.d1, f3 := S.d3, f4 := by omega, f5 := (S.apart F (by simp)).1, f6 := (S.apart F (by simp)).2.1,
      m2 := S.d4.symm, m3 := S.d6, m4 := by omega, m5 := (S.apart FM (by simp)).1, m6 := (S.apart FM (by simp)).2.1,
      r3 := S.d5, r4 := by omega, r5 := (S.apart R (by simp)).1, r6 := (S.apart R (by simp)).2.1,
      n4 := by omega, n5 := (S.apart RM (by simp)).1, n6 := (S.apart RM (by simp)).2.1 }
  refine (occ_any C N 1 F R FM RM w7.heap.size k false false rf level (1) gf (padF n2 fm) gr (padF n3 rm) (padF k am) w8 hk (by simp)
    (S.c0.kept (Kept.of_below (S := []) m8) (by simp) (by simp)) (S.f0.below m8 tF) (S.fm.below m8 tFM) (S.r0.below m8 tR) (S.rm.below m8 tRM) b8 D (by simp)).mono ?_
  rintro e w9 ⟨rfl, oF, oFM, oR, oRM, kk⟩
  have hS : ∀ x, w1.heap.size ≤ x → x ∉ [F, FM, R, RM] := by intro x hx; simp; omega
  have y2 := kk.blk q2 (hS _ (by omega))
  have y3 := kk.blk q3 (hS _ (by omega))
  have y4 := kk.blk q4 (hS _ (by omega))
  have y5 := kk.blk q5 (hS _ (by omega))
  have u6 := kk.blk q6 (hS _ (by omega))
  have u7 := kk.blk q7 (hS _ (by omega))
  have y8 := kk.blk b8 (hS _ (by omega))
  have m9' := kk.below m8' (by omega) (by have := S.own; simp at this ⊢; omega)
  have aF := S.apart F (by simp)
  have aR := S.apart R (by simp)
  have aM := S.apart FM (by simp)
  have aN := S.apart RM (by simp)
  have wF' : Blk w9 F' 2 (row k gf') := kk.blk (S.f1.below m8 S.f1.lt) (by simp [aF.2.2.1.symm, aR.2.2.1.symm, aM.2.2.1.symm, aN.2.2.1.symm])
  have wR' : Blk w9 R' 2 (row k gr') := kk.blk (S.r1.below m8 S.r1.lt) (by simp [aF.2.2.2.symm, aR.2.2.2.symm, aM.2.2.2.symm, aN.2.2.2.symm])
  have nC : C ∉ [F, FM, R, RM] := by simp [aF.1.symm, aR.1.symm, aM.1.symm, aN.1.symm]
  have nN : N ∉ [F, FM, R, RM] := by simp [aF.2.1.symm, aR.2.1.symm, aM.2.1.symm, aN.2.1.symm]
  have C0 := (S.c0.kept (Kept.of_below (S := []) m8) (by simp) (by simp)).kept kk nC nN
  have C1 := (S.c1.kept (Kept.of_below (S := []) m8) (by simp) (by simp)).kept kk nC nN
  have vF := oF.to (f' := fun i => wrap64 (gf i - am i)) (fun i hi => by rw [mv_up, padF_self k am i hi])
  have vFM := oFM.to (f' := fun i => max (padF n2 fm i) (wrap64 (gf i - am i))) (fun i hi => by rw [mv_up, padF_self k am i hi])
  have vR := oR.to (f' := fun i => gr i) (fun i hi => by simp)
  have vRM := oRM.to (f' := fun i => padF n3 rm i) (fun i hi => by simp)
  have u2 := y2.to (padF_self k gf)
  have u3 := y3.to (padF_self k gr)
  have u4 := y4.to (padF_self k gf')
  have u5 := y5.to (padF_self k gr')
  have u8 := y8.to (padF_self k am)
  have h9 := h4.below m9' (Nat.le_refl _)
  have z9 := kk.size
  clear oF oFM oR oRM y2 y3 y4 y5 y8 h4 q2 q3 q4 q5 q6 q7 b8 kk aF aR aM aN nC nN D S m8 m8' s0 hS lC lN tF tR tFM tRM
  have lC := block_lt_of_cell (a := ⟨C, 1, none⟩) C0.nodes
  have lN := block_lt_of_cell (a := ⟨N, 8, none⟩) C0.free
  have lF := vF.lt
  have lFM := vFM.lt
  have lR := vR.lt
  have lRM := vRM.lt
  go_wp2_with fail
  go_loopw [34] (fun i wr => ∃ t : Nat, t ≤ k ∧ i = .int .i64 t ∧ Below w9.heap.size w9 wr) (fun i _ => k - (intOf i).toNat)
  case atStart => exact ⟨0, Nat.zero_le _, rfl, Below.refl _ _⟩
  case round =>
    obtain ⟨t, ht, rfl, hb⟩ := hrel
    have hs := hb.size
    by_cases hlt : t < k
    · have d1 := vF.at t hlt
      have d2 := vFM.at t hlt
      have d3 := vR.at t hlt
      have d4 := vRM.at t hlt
      have d5 := u2.at t hlt
      have d6 := u3.at t hlt
      have d7 := u6.at t hlt
      have d8 := u7.at t hlt
      clear vF vFM vR vRM u2 u3 u4 u5 u6 u7 u8 wF' wR' m9' C1
      go_wp2_with fail
      refine (pad_any a4 k p4 k am _ hk (h9.below hb (Nat.le_refl _))).mono ?_
      rintro e w10 ⟨rfl, b10, l10⟩
      have mm := hb.trans (l10.mono hs)
      have t1 : (t : Int) < (k : Int) := by omega
      have c1 := (mm.cell (p := ⟨F, t, none⟩) lF).trans d1
      have c3 := (mm.cell (p := ⟨R, t, none⟩) lR).trans d3
      have c5 := (mm.cell (p := ⟨w1.heap.size, t, none⟩) (by show w1.heap.size < w9.heap.size; omega)).trans d5
      have c6 := (mm.cell (p := ⟨w2.heap.size, t, none⟩) (by show w2.heap.size < w9.heap.size; omega)).trans d6
      have c7 := (mm.cell (p := ⟨w5.heap.size, t, none⟩) (by show w5.heap.size < w9.heap.size; omega)).trans d7
      have c8 := (mm.cell (p := ⟨w6.heap.size, t, none⟩) (by show w6.heap.size < w9.heap.size; omega)).trans d8
      have c9 := (b10.to (padF_self k am)).at t hlt
      have x1 := (mm.cell (p := ⟨C, 1, none⟩) lC).trans C0.nodes
      have x2 := (mm.cell (p := ⟨C, 7, none⟩) lC).trans C0.fm
      have x3 := (mm.cell (p := ⟨C, 12, none⟩) lC).trans C0.rm
      have x4 : w10.cell? ⟨N, 8, none⟩ = some (.slice (some ⟨F, 0, none⟩) k k) := (mm.cell (p := ⟨N, 8, none⟩) lN).trans C0.free
      have x5 : w10.cell? ⟨N, 10, none⟩ = some (.slice (some ⟨R, 0, none⟩) k k) := (mm.cell (p := ⟨N, 10, none⟩) lN).trans C0.reach
      have c4 := (mm.cell (p := ⟨RM, t, none⟩) lRM).trans d4
      have c2 := (mm.cell (p := ⟨FM, t, none⟩) lFM).trans d2
      clear d1 d2 d3 d4 d5 d6 d7 d8 b10 l10 lF lFM lR lRM lC lN C0 h9 hb hs hp hp0 hp1 g2 g3 g4 g5 g6 g7 g8 z9 s1
      by_cases hm : padF n2 fm t < wrap64 (gf t - am t)
      · rw [show max (padF n2 fm t) (wrap64 (gf t - am t)) = wrap64 (gf t - am t) from by omega] at c2
        have s1 : (gr t != gr t) = false := by simp
        go_wp2_with fail
        go_quiet (fail)
        go_wp2
        go_roundw
        case rel => exact ⟨t + 1, by omega, by go_num, bel_drewN mm _⟩
        case measure => simp [intOf]; omega
      · rw [show max (padF n2 fm t) (wrap64 (gf t - am t)) = padF n2 fm t from by omega] at c2
        have s1 : (gr t != gr t) = false := by simp
        go_wp2_with fail
        go_quiet (fail)
        go_wp2
        go_roundw
        case rel => exact ⟨t + 1, by omega, by go_num, bel_drewN mm _⟩
        case measure => simp [intOf]; omega
    · have r1 := wF'.below hb wF'.lt
      have r2 := u4.below hb u4.lt
      have r3 := wR'.below hb wR'.lt
      have r4 := u5.below hb u5.lt
      have r5 := u8.below hb u8.lt
      have x1 := (hb.cell (p := ⟨C, 1, none⟩) lC).trans C0.nodes
      have x2 := (hb.cell (p := ⟨C, 10, none⟩) lC).trans C0.rf
      have x3 := (hb.cell (p := ⟨C, 11, none⟩) lC).trans C0.aimed
      have x4 : wr.cell? ⟨N, 2, none⟩ = some (.slice (some ⟨F', 0, none⟩) k k) := (hb.cell (p := ⟨N, 2, none⟩) lN).trans C1.free
      have x5 : wr.cell? ⟨N, 4, none⟩ = some (.slice (some ⟨R', 0, none⟩) k k) := (hb.cell (p := ⟨N, 4, none⟩) lN).trans C1.reach
      have lC' : C < wr.heap.size := by omega
      have m10 := m9'.trans (hb.mono (by omega))
      have h10 := h9.below hb (Nat.le_refl _)
      clear vF vFM vR vRM u2 u3 u4 u5 u6 u7 u8 wF' wR' m9' C0 C1 hb h9 lF lFM lR lRM lC lN hp hp0 hp1 g2 g3 g4 g5 g6 g7 g8 z9 s1
      go_wp2_with fail
      refine (same_any F' w3.heap.size k gf' _ hk r1 r2 k k).mono ?_
      rintro e w11 ⟨rfl, nn, rfl⟩
      go_wp2_with fail
      refine (same_any R' w4.heap.size k gr' _ hk (r3.drewN _) (r4.drewN _) k k).mono ?_
      rintro e w12 ⟨rfl, nm, rfl⟩
      go_wp2_with fail
      refine (pad_any a4 k p4 k am _ hk (h10.below (bel_drewN (Below.refl _ _) _) (Nat.le_refl _))).mono ?_
      rintro e w13 ⟨rfl, b13, l13⟩
      have l13' : Below wr.heap.size wr w13 := (bel_drewN (Below.refl _ _) _).trans l13
      have b13' : Blk w13 wr.heap.size 2 (row k am) := b13.to (padF_self k am)
      have r5' := r5.below l13' r5.lt
      have x1 := (l13'.cell (p := ⟨C, 1, none⟩) lC').trans x1
      have x2 := (l13'.cell (p := ⟨C, 10, none⟩) lC').trans x2
      have x3 := (l13'.cell (p := ⟨C, 11, none⟩) lC').trans x3
      have m13 := m10.trans (l13'.mono m10.size)
      have y1 : (rf == rf) = true := by simp
      clear b13 l13 l13' r1 r2 r3 r4 r5 h10 x4 x5 m10
      go_wp2_with fail
      refine (same_any w7.heap.size wr.heap.size k am _ hk r5' b13' k k).mono ?_
      rintro e w14 ⟨rfl, no, rfl⟩
      go_wp2_with fail
      try go_quiet (fail)
      go_wp2
      go_ret
      exact ⟨rfl, bel_drewN m13 _⟩

set_option maxRecDepth 100000 in
set_option maxHeartbeats 4000000 in
theorem upd_1_true_B (a0 a1 a2 a3 a4 : Option Addr) (n0 n1 n2 n3 p0 p1 p2 p3 p4 k : Nat) (pick : Int) (level rf : Int) (f r fm rm am : Nat → Int) (w : World) (hk : k ≤ 1024)
    (h0 : Reads w a0 n0 f) (h1 : Reads w a1 n1 r) (h2 : Reads w a2 n2 fm) (h3 : Reads w a3 n3 rm) (h4 : Reads w a4 k am) (hp : pick % 2 = 1) (hp0 : 0 ≤ pick) (hp1 : pick ≤ 255) (hl : rf ≤ level) :
    Calls Yba.prog 7 #[.slice a0 n0 p0, .slice a1 n1 p1, .slice a2 n2 p2, .slice a3 n3 p3, .slice a4 k p4, .int .u8 pick, .bool true, .bool true, .int .i64 level, .int .i64 rf] w fun e w' => e = .returned (.bool true) ∧ Below w.heap.size w w' := by
  go_enter Yba.func7, Yba.ntmps7
  go_wp2_with fail
  refine (build_side 1 0 (by simp) a0 a1 a2 a3 n0 n1 n2 n3 p0 p1 p2 p3 k true rf f r fm rm w hk h0 h1 h2 h3).mono ?_
  rintro e w1 ⟨C, N, F, R, F', R', FM, RM, gf, gr, gf', gr', rfl, S⟩
  clear h0 h1
  have lC := block_lt_of_cell (a := ⟨C, 1, none⟩) S.c0.nodes
  have lN := block_lt_of_cell (a := ⟨N, 8, none⟩) S.c0.free
  have e1 := S.c0.nodes
  have e2 : w1.cell? ⟨N, 8, none⟩ = some (.slice (some ⟨F, 0, none⟩) k k) := S.c0.free
  go_wp2_with fail
  refine (pad_any _ k k k gf _ hk S.f0.reads).mono ?_
  rintro e w2 ⟨rfl, b2, l2⟩
  have g2 := b2.lt
  clear e1 e2
  have e1 := (l2.cell (p := ⟨C, 1, none⟩) lC).trans S.c0.nodes
  have e2 : w2.cell? ⟨N, 10, none⟩ = some (.slice (some ⟨R, 0, none⟩) k k) := (l2.cell (p := ⟨N, 10, none⟩) lN).trans S.c0.reach
  go_wp2_with fail
  refine (pad_any _ k k k gr _ hk (S.r0.reads.below l2 (Nat.le_refl _))).mono ?_
  rintro e w3 ⟨rfl, b3, l3⟩
  have g3 := b3.lt
  have m3 := l2.trans (l3.mono (Nat.le_of_lt g2))
  clear e1 e2
  have e1 := (m3.cell (p := ⟨C, 1, none⟩) lC).trans S.c0.nodes
  have e2 : w3.cell? ⟨N, 2, none⟩ = some (.slice (some ⟨F', 0, none⟩) k k) := (m3.cell (p := ⟨N, 2, none⟩) lN).trans S.c1.free
  go_wp2_with fail
  refine (pad_any _ k k k gf' _ hk (S.f1.reads.below m3 (Nat.le_refl _))).mono ?_
  rintro e w4 ⟨rfl, b4, l4⟩
  have g4 := b4.lt
  have m4 := m3.trans (l4.mono (by omega))
  clear e1 e2
  have e1 := (m4.cell (p := ⟨C, 1, none⟩) lC).trans S.c0.nodes
  have e2 : w4.cell? ⟨N, 4, none⟩ = some (.slice (some ⟨R', 0, none⟩) k k) := (m4.cell (p := ⟨N, 4, none⟩) lN).trans S.c1.reach
  go_wp2_with fail
  refine (pad_any _ k k k gr' _ hk (S.r1.reads.below m4 (Nat.le_refl _))).mono ?_
  rintro e w5 ⟨rfl, b5, l5⟩
  have g5 := b5.lt
  have m5 := m4.trans (l5.mono (by omega))
  have s0 := S.bel
  have s1 := s0.size
  have m5' := s0.trans (m5.mono s1)
  go_wp2_with fail
  refine (pad_any a2 n2 p2 k fm _ hk (h2.below m5' (Nat.le_refl _))).mono ?_
  rintro e w6 ⟨rfl, b6, l6⟩
  have g6 := b6.lt
  have m6 := m5.trans (l6.mono (by omega))
  have m6' := s0.trans (m6.mono s1)
  go_wp2_with fail
  refine (pad_any a3 n3 p3 k rm _ hk (h3.below m6' (Nat.le_refl _))).mono ?_
  rintro e w7 ⟨rfl, b7, l7⟩
  have g7 := b7.lt
  have m7 := m6.trans (l7.mono (by omega))
  have m7' := s0.trans (m7.mono s1)
  go_wp2_with fail
  refine (pad_any a4 k p4 k am _ hk (h4.below m7' (Nat.le_refl _))).mono ?_
  rintro e w8 ⟨rfl, b8, l8⟩
  have g8 := b8.lt
  have m8 := m7.trans (l8.mono (by omega))
  have m8' := s0.trans (m8.mono s1)
  have q7 := b7.below l8 (by omega)
  have q6 := (b6.below l7 (by omega)).below l8 (by omega)
  have q5 := ((b5.below l6 (by omega)).below l7 (by omega)).below l8 (by omega)
  have q4 := (((b4.below l5 (by omega)).below l6 (by omega)).below l7 (by omega)).below l8 (by omega)
  have q3 := ((((b3.below l4 (by omega)).below l5 (by omega)).below l6 (by omega)).below l7 (by omega)).below l8 (by omega)
  have q2 := (((((b2.below l3 (by omega)).below l4 (by omega)).below l5 (by omega)).below l6 (by omega)).below l7 (by omega)).below l8 (by omega)
  clear b2 b3 b4 b5 b6 b7 l2 l3 l4 l5 l6 l7 l8 e1 e2 m3 m4 m5 m6 m7 m5' m6' m7' h2 h3
  go_wp2_with fail
  have tF := S.f0.lt
  have tR := S.r0.lt
  have tFM := S.fm.lt
  have tRM := S.rm.lt
  have D : Apart F FM R RM w7.heap.size C N :=
    { f1 := S.d2, f2 := S.d1, f3 := S.d3, f4 := by omega, f5 := (S.apart F (by simp)).1, f6 := (S.apart F (by simp)).2.1,
      m2 := S.d4.symm, m3 := S.d6, m4 := by omega, m5 := (S.apart FM (by simp)).1, m6 := (S.apart FM (by simp)).2.1,
      r3 := S.d5, r4 := by omega, r5 := (S.apart R (by simp)).1, r6 := (S.apart R (by simp)).2.1,
      n4 := by omega, n5 := (S.apart RM (by simp)).1, n6 := (S.apart RM (by simp)).2.1 }
  refine (occ_any C N 1 F R FM RM w7.heap.size k true true rf level (1) gf (padF n2 fm) gr (padF n3 rm) (padF k am) w8 hk (by simp)
    (S.c0.kept (Kept.of_below (S := []) m8) (by simp) (by simp)) (S.f0.below m8 tF) (S.fm.below m8 tFM) (S.r0.below m8 tR) (S.rm.below m8 tRM) b8 D (by simp; exact hl)).mono ?_
  rintro e w9 ⟨rfl, oF, oFM, oR, oRM, kk⟩
  have hS : ∀ x, w1.heap.size ≤ x → x ∉ [F, FM, R, RM] := by intro x hx; simp; omega
  have y2 := kk.blk q2 (hS _ (by omega))
  have y3 := kk.blk q3 (hS _ (by omega))
  have y4 := kk.blk q4 (hS _ (by omega))
  have y5 := kk.blk q5 (hS _ (by omega))
  have u6 := kk.blk q6 (hS _ (by omega))
  have u7 := kk.blk q7 (hS _ (by omega))
  have y8 := kk.blk b8 (hS _ (by omega))
  have m9' := kk.below m8' (by omega) (by have := S.own; simp at this ⊢; omega)
  have aF := S.apart F (by simp)
  have aR := S.apart R (by simp)
  have aM := S.apart FM (by simp)
  have aN := S.apart RM (by simp)
  have wF' : Blk w9 F' 2 (row k gf') := kk.blk (S.f1.below m8 S.f1.lt) (by simp [aF.2.2.1.symm, aR.2.2.1.symm, aM.2.2.1.symm, aN.2.2.1.symm])
  have wR' : Blk w9 R' 2 (row k gr') := kk.blk (S.r1.below m8 S.r1.lt) (by simp [aF.2.2.2.symm, aR.2.2.2.symm, aM.2.2.2.symm, aN.2.2.2.symm])
  have nC : C ∉ [F, FM, R, RM] := by simp [aF.1.symm, aR.1.symm, aM.1.symm, aN.1.symm]
  have nN : N ∉ [F, FM, R, RM] := by simp [aF.2.1.symm, aR.2.1.symm, aM.2.1.symm, aN.2.1.symm]
  have C0 := (S.c0.kept (Kept.of_below (S := []) m8) (by simp) (by simp)).kept kk nC nN
  have C1 := (S.c1.kept (Kept.of_below (S := []) m8) (by simp) (by simp)).kept kk nC nN
  have vF := oF.to (f' := fun i => wrap64 (gf i - am i)) (fun i hi => by rw [mv_up, padF_self k am i hi])
  have vFM := oFM.to (f' := fun i => max (padF n2 fm i) (wrap64 (gf i - am i))) (fun i hi => by rw [mv_up, padF_self k am i hi])
  have vR := oR.to (f' := fun i => wrap64 (gr i - am i)) (fun i hi => by simp [mv_up, padF_self k am i hi])
  have vRM := oRM.to (f' := fun i => max (padF n3 rm i) (wrap64 (gr i - am i))) (fun i hi => by simp [mv_up, padF_self k am i hi])
  have u2 := y2.to (padF_self k gf)
  have u3 := y3.to (padF_self k gr)
  have u4 := y4.to (padF_self k gf')
  have u5 := y5.to (padF_self k gr')
  have u8 := y8.to (padF_self k am)
  have h9 := h4.below m9' (Nat.le_refl _)
  have z9 := kk.size
  clear oF oFM oR oRM y2 y3 y4 y5 y8 h4 q2 q3 q4 q5 q6 q7 b8 kk aF aR aM aN nC nN D S m8 m8' s0 hS lC lN tF tR tFM tRM
  have lC := block_lt_of_cell (a := ⟨C, 1, none⟩) C0.nodes
  have lN := block_lt_of_cell (a := ⟨N, 8, none⟩) C0.free
  have lF := vF.lt
  have lFM := vFM.lt
  have lR := vR.lt
  have lRM := vRM.lt
  go_wp2_with fail
  go_loopw [34] (fun i wr => ∃ t : Nat, t ≤ k ∧ i = .int .i64 t ∧ Below w9.heap.size w9 wr) (fun i _ => k - (intOf i).toNat)
  case atStart => exact ⟨0, Nat.zero_le _, rfl, Below.refl _ _⟩
  case round =>
    obtain ⟨t, ht, rfl, hb⟩ := hrel
    have hs := hb.size
    by_cases hlt : t < k
    · have d1 := vF.at t hlt
      have d2 := vFM.at t hlt
      have d3 := vR.at t hlt
      have d4 := vRM.at t hlt
      have d5 := u2.at t hlt
      have d6 := u3.at t hlt
      have d7 := u6.at t hlt
      have d8 := u7.at t hlt
      clear vF vFM vR vRM u2 u3 u4 u5 u6 u7 u8 wF' wR' m9' C1
      go_wp2_with fail
      refine (pad_any a4 k p4 k am _ hk (h9.below hb (Nat.le_refl _))).mono ?_
      rintro e w10 ⟨rfl, b10, l10⟩
      have mm := hb.trans (l10.mono hs)
      have t1 : (t : Int) < (k : Int) := by omega
      have c1 := (mm.cell (p := ⟨F, t, none⟩) lF).trans d1
      have c3 := (mm.cell (p := ⟨R, t, none⟩) lR).trans d3
      have c5 := (mm.cell (p := ⟨w1.heap.size, t, none⟩) (by show w1.heap.size < w9.heap.size; omega)).trans d5
      have c6 := (mm.cell (p := ⟨w2.heap.size, t, none⟩) (by show w2.heap.size < w9.heap.size; omega)).trans d6
      have c7 := (mm.cell (p := ⟨w5.heap.size, t, none⟩) (by show w5.heap.size < w9.heap.size; omega)).trans d7
      have c8 := (mm.cell (p := ⟨w6.heap.size, t, none⟩) (by show w6.heap.size < w9.heap.size; omega)).trans d8
      have c9 := (b10.to (padF_self k am)).at t hlt
      have x1 := (mm.cell (p := ⟨C, 1, none⟩) lC).trans C0.nodes
      have x2 := (mm.cell (p := ⟨C, 7, none⟩) lC).trans C0.fm
      have x3 := (mm.cell (p := ⟨C, 12, none⟩) lC).trans C0.rm
      have x4 : w10.cell? ⟨N, 8, none⟩ = some (.slice (some ⟨F, 0, none⟩) k k) := (mm.cell (p := ⟨N, 8, none⟩) lN).trans C0.free
      have x5 : w10.cell? ⟨N, 10, none⟩ = some (.slice (some ⟨R, 0, none⟩) k k) := (mm.cell (p := ⟨N, 10, none⟩) lN).trans C0.reach
      have c4 := (mm.cell (p := ⟨RM, t, none⟩) lRM).trans d4
      have c2 := (mm.cell (p := ⟨FM, t, none⟩) lFM).trans d2
      clear d1 d2 d3 d4 d5 d6 d7 d8 b10 l10 lF lFM lR lRM lC lN C0 h9 hb hs hp hp0 hp1 g2 g3 g4 g5 g6 g7 g8 z9 s1
      by_cases hm : padF n2 fm t < wrap64 (gf t - am t)
      · rw [show max (padF n2 fm t) (wrap64 (gf t - am t)) = wrap64 (gf t - am t) from by omega] at c2
        by_cases hn : padF n3 rm t < wrap64 (gr t - am t)
        · rw [show max (padF n3 rm t) (wrap64 (gr t - am t)) = wrap64 (gr t - am t) from by omega] at c4
          go_wp2
          go_roundw
          case rel => exact ⟨t + 1, by omega, by go_num, mm⟩
          case measure => simp [intOf]; omega
        · rw [show max (padF n3 rm t) (wrap64 (gr t - am t)) = padF n3 rm t from by omega] at c4
          go_wp2
          go_roundw
          case rel => exact ⟨t + 1, by omega, by go_num, mm⟩
          case measure => simp [intOf]; omega
      · rw [show max (padF n2 fm t) (wrap64 (gf t - am t)) = padF n2 fm t from by omega] at c2
        by_cases hn : padF n3 rm t < wrap64 (gr t - am t)
        · rw [show max (padF n3 rm t) (wrap64 (gr t - am t)) = wrap64 (gr t - am t) from by omega] at c4
          go_wp2
          go_roundw
          case rel => exact ⟨t + 1, by omega, by go_num, mm⟩
          case measure => simp [intOf]; omega
        · rw [show max (padF n3 rm t) (wrap64 (gr t - am t)) = padF n3 rm t from by omega] at c4
          go_wp2
          go_roundw
          case rel => exact ⟨t + 1, by omega, by go_num, mm⟩
          case measure => simp [intOf]; omega
    · have r1 := wF'.below hb wF'.lt
      have r2 := u4.below hb u4.lt
      have r3 := wR'.below hb wR'.lt
      have r4 := u5.below hb u5.lt
      have r5 := u8.below hb u8.lt
      have x1 := (hb.cell (p := ⟨C, 1, none⟩) lC).trans C0.nodes
      have x2 := (hb.cell (p := ⟨C, 10, none⟩) lC).trans C0.rf
      have x3 := (hb.cell (p := ⟨C, 11, none⟩) lC).trans C0.aimed
      have x4 : wr.cell? ⟨N, 2, none⟩ = some (.slice (some ⟨F', 0, none⟩) k k) := (hb.cell (p := ⟨N, 2, none⟩) lN).trans C1.free
      have x5 : wr.cell? ⟨N, 4, none⟩ = some (.slice (some ⟨R', 0, none⟩) k k) := (hb.cell (p := ⟨N, 4, none⟩) lN).trans C1.reach
      have lC' : C < wr.heap.size := by omega
      have m10 := m9'.trans (hb.mono (by omega))
      have h10 := h9.below hb (Nat.le_refl _)
      clear vF vFM vR vRM u2 u3 u4 u5 u6 u7 u8 wF' wR' m9' C0 C1 hb h9 lF lFM lR lRM lC lN hp hp0 hp1 g2 g3 g4 g5 g6 g7 g8 z9 s1
      go_wp2_with fail
      refine (same_any F' w3.heap.size k gf' _ hk r1 r2 k k).mono ?_
      rintro e w11 ⟨rfl, nn, rfl⟩
      go_wp2_with fail
      refine (same_any R' w4.heap.size k gr' _ hk (r3.drewN _) (r4.drewN _) k k).mono ?_
      rintro e w12 ⟨rfl, nm, rfl⟩
      go_wp2_with fail
      refine (pad_any a4 k p4 k am _ hk (h10.below (bel_drewN (Below.refl _ _) _) (Nat.le_refl _))).mono ?_
      rintro e w13 ⟨rfl, b13, l13⟩
      have l13' : Below wr.heap.size wr w13 := (bel_drewN (Below.refl _ _) _).trans l13
      have b13' : Blk w13 wr.heap.size 2 (row k am) := b13.to (padF_self k am)
      have r5' := r5.below l13' r5.lt
      have x1 := (l13'.cell (p := ⟨C, 1, none⟩) lC').trans x1
      have x2 := (l13'.cell (p := ⟨C, 10, none⟩) lC').trans x2
      have x3 := (l13'.cell (p := ⟨C, 11, none⟩) lC').trans x3
      have m13 := m10.trans (l13'.mono m10.size)
      have y1 : (rf == rf) = true := by simp
      clear b13 l13 l13' r1 r2 r3 r4 r5 h10 x4 x5 m10
      go_wp2_with fail
      refine (same_any w7.heap.size wr.heap.size k am _ hk r5' b13' k k).mono ?_
      rintro e w14 ⟨rfl, no, rfl⟩
      go_wp2_with fail
      try go_quiet (fail)
      go_wp2
      go_ret
      exact ⟨rfl, bel_drewN m13 _⟩

set_option maxRecDepth 100000 in
set_option maxHeartbeats 4000000 in
theorem upd_1_true_C (a0 a1 a2 a3 a4 : Option Addr) (n0 n1 n2 n3 p0 p1 p2 p3 p4 k : Nat) (pick : Int) (level rf : Int) (f r fm rm am : Nat → Int) (w : World) (hk : k ≤ 1024)
    (h0 : Reads w a0 n0 f) (h1 : Reads w a1 n1 r) (h2 : Reads w a2 n2 fm) (h3 : Reads w a3 n3 rm) (h4 : Reads w a4 k am) (hp : pick % 2 = 1) (hp0 : 0 ≤ pick) (hp1 : pick ≤ 255) (hl : level < rf) :
    Calls Yba.prog 7 #[.slice a0 n0 p0, .slice a1 n1 p1, .slice a2 n2 p2, .slice a3 n3 p3, .slice a4 k p4, .int .u8 pick, .bool true, .bool true, .int .i64 level, .int .i64 rf] w fun e w' => e = .returned (.bool true) ∧ Below w.heap.size w w' := by
  go_enter Yba.func7, Yba.ntmps7
  go_wp2_with fail
  refine (build_side 1 0 (by simp) a0 a1 a2 a3 n0 n1 n2 n3 p0 p1 p2 p3 k true rf f r fm rm w hk h0 h1 h2 h3).mono ?_
  rintro e w1 ⟨C, N, F, R, F', R', FM, RM, gf, gr, gf', gr', rfl, S⟩
  clear h0 h1
  have lC := block_lt_of_cell (a := ⟨C, 1, none⟩) S.c0.nodes
  have lN := block_lt_of_cell (a := ⟨N, 8, none⟩) S.c0.free
  have e1 := S.c0.nodes
  have e2 : w1.cell? ⟨N, 8, none⟩ = some (.slice (some ⟨F, 0, none⟩) k k) := S.c0.free
  go_wp2_with fail
  refine (pad_any _ k k k gf _ hk S.f0.reads).mono ?_
  rintro e w2 ⟨rfl, b2, l2⟩
  have g2 := b2.lt
  clear e1 e2
  have e1 := (l2.cell (p := ⟨C, 1, none⟩) lC).trans S.c0.nodes
  have e2 : w2.cell? ⟨N, 10, none⟩ = some (.slice (some ⟨R, 0, none⟩) k k) := (l2.cell (p := ⟨N, 10, none⟩) lN).trans S.c0.reach
  go_wp2_with fail
  refine (pad_any _ k k k gr _ hk (S.r0.reads.below l2 (Nat.le_refl _))).mono ?_
  rintro e w3 ⟨rfl, b3, l3⟩
  have g3 := b3.lt
  have m3 := l2.trans (l3.mono (Nat.le_of_lt g2))
  clear e1 e2
  have e1 := (m3.cell (p := ⟨C, 1, none⟩) lC).trans S.c0.nodes
  have e2 : w3.cell? ⟨N, 2, none⟩ = some (.slice (some ⟨F', 0, none⟩) k k) := (m3.cell (p := ⟨N, 2, none⟩) lN).trans S.c1.free
  go_wp2_with fail
  refine (pad_any _ k k k gf' _ hk (S.f1.reads.below m3 (Nat.le_refl _))).mono ?_
  rintro e w4 ⟨rfl, b4, l4⟩
  have g4 := b4.lt
  have m4 := m3.trans (l4.mono (by omega))
  clear e1 e2
  have e1 := (m4.cell (p := ⟨C, 1, none⟩) lC).trans S.c0.nodes
  have e2 : w4.cell? ⟨N, 4, none⟩ = some (.slice (some ⟨R', 0, none⟩) k k) := (m4.cell (p := ⟨N, 4, none⟩) lN).trans S.c1.reach
  go_wp2_with fail
  refine (pad_any _ k k k gr' _ hk (S.r1.reads.below m4 (Nat.le_refl _))).mono ?_
  rintro e w5 ⟨rfl, b5, l5⟩
  have g5 := b5.lt
  have m5 := m4.trans (l5.mono (by omega))
  have s0 := S.bel
  have s1 := s0.size
  have m5' := s0.trans (m5.mono s1)
  go_wp2_with fail
  refine (pad_any a2 n2 p2 k fm _ hk (h2.below m5' (Nat.le_refl _))).mono ?_
  rintro e w6 ⟨rfl, b6, l6⟩
  have g6 := b6.lt
  have m6 := m5.trans (l6.mono (by omega))
  have m6' := s0.trans (m6.mono s1)
  go_wp2_with fail
  refine (pad_any a3 n3 p3 k rm _ hk (h3.below m6' (Nat.le_refl _))).mono ?_
  rintro e w7 ⟨rfl, b7, l7⟩
  have g7 := b7.lt
  have m7 := m6.trans (l7.mono (by omega))
  have m7' := s0.trans (m7.mono s1)
  go_wp2_with fail
  refine (pad_any a4 k p4 k am _ hk (h4.below m7' (Nat.le_refl _))).mono ?_
  rintro e w8 ⟨rfl, b8, l8⟩
  have g8 := b8.lt
  have m8 := m7.trans (l8.mono (by omega))
  have m8' := s0.trans (m8.mono s1)
  have q7 := b7.below l8 (by omega)
  have q6 := (b6.below l7 (by omega)).below l8 (by omega)
  have q5 := ((b5.below l6 (by omega)).below l7 (by omega)).below l8 (by omega)
  have q4 := (((b4.below l5 (by omega)).below l6 (by omega)).below l7 (by omega)).below l8 (by omega)
  have q3 := ((((b3.below l4 (by omega)).below l5 (by omega)).below l6 (by omega)).below l7 (by omega)).below l8 (by omega)
  have q2 := (((((b2.below l3 (by omega)).below l4 (by omega)).below l5 (by omega)).below l6 (by omega)).below l7 (by omega)).below l8 (by omega)
  clear b2 b3 b4 b5 b6 b7 l2 l3 l4 l5 l6 l7 l8 e1 e2 m3 m4 m5 m6 m7 m5' m6' m7' h2 h3
  go_wp2_with fail
  have tF := S.f0.lt
  have tR := S.r0.lt
  have tFM := S.fm.lt
  have tRM := S.rm.lt
  have D : Apart F FM R RM w7.heap.size C N :=
    { f1 := S.d2, f2 := S.d1, f3 := S.d3, f4 := by omega, f5 := (S.apart F (by simp)).1, f6 := (S.apart F (by simp)).2.1,
      m2 := S.d4.symm, m3 := S.d6, m4 := by omega, m5 := (S.apart FM (by simp)).1, m6 := (S.apart FM (by simp)).2.1,
      r3 := S.d5, r4 := by omega, r5 := (S.apart R (by simp)).1, r6 := (S.apart R (by simp)).2.1,
      n4 := by omega, n5 := (S.apart RM (by simp)).1, n6 := (S.apart RM (by simp)).2.1 }
  refine (occ_any C N 1 F R FM RM w7.heap.size k true false rf level (1) gf (padF n2 fm) gr (padF n3 rm) (padF k am) w8 hk (by simp)
    (S.c0.kept (Kept.of_below (S := []) m8) (by simp) (by simp)) (S.f0.below m8 tF) (S.fm.below m8 tFM) (S.r0.below m8 tR) (S.rm.below m8 tRM) b8 D (by simp; exact hl)).mono ?_
  rintro e w9 ⟨rfl, oF, oFM, oR, oRM, kk⟩
  have hS : ∀ x, w1.heap.size ≤ x → x ∉ [F, FM, R, RM] := by intro x hx; simp; omega
  have y2 := kk.blk q2 (hS _ (by omega))
  have y3 := kk.blk q3 (hS _ (by omega))
  have y4 := kk.blk q4 (hS _ (by omega))
  have y5 := kk.blk q5 (hS _ (by omega))
  have u6 := kk.blk q6 (hS _ (by omega))
  have u7 := kk.blk q7 (hS _ (by omega))
  have y8 := kk.blk b8 (hS _ (by omega))
  have m9' := kk.below m8' (by omega) (by have := S.own; simp at this ⊢; omega)
  have aF := S.apart F (by simp)
  have aR := S.apart R (by simp)
  have aM := S.apart FM (by simp)
  have aN := S.apart RM (by simp)
  have wF' : Blk w9 F' 2 (row k gf') := kk.blk (S.f1.below m8 S.f1.lt) (by simp [aF.2.2.1.symm, aR.2.2.1.symm, aM.2.2.1.symm, aN.2.2.1.symm])
  have wR' : Blk w9 R' 2 (row k gr') := kk.blk (S.r1.below m8 S.r1.lt) (by simp [aF.2.2.2.symm, aR.2.2.2.symm, aM.2.2.2.symm, aN.2.2.2.symm])
  have nC : C ∉ [F, FM, R, RM] := by simp [aF.1.symm, aR.1.symm, aM.1.symm, aN.1.symm]
  have nN : N ∉ [F, FM, R, RM] := by simp [aF.2.1.symm, aR.2.1.symm, aM.2.1.symm, aN.2.1.symm]
  have C0 := (S.c0.kept (Kept.of_below (S := []) m8) (by simp) (by simp)).kept kk nC nN
  have C1 := (S.c1.kept (Kept.of_below (S := []) m8) (by simp) (by simp)).kept kk nC nN
  have vF := oF.to (f' := fun i => wrap64 (gf i - am i)) (fun i hi => by rw [mv_up, padF_self k am i hi])
  have vFM := oFM.to (f' := fun i => max (padF n2 fm i) (wrap64 (gf i - am i))) (fun i hi => by rw [mv_up, padF_self k am i hi])
  have vR := oR.to (f' := fun i => gr i) (fun i hi => by simp)
  have vRM := oRM.to (f' := fun i => padF n3 rm i) (fun i hi => by simp)
  have u2 := y2.to (padF_self k gf)
  have u3 := y3.to (padF_self k gr)
  have u4 := y4.to (padF_self k gf')
  have u5 := y5.to (padF_self k gr')
  have u8 := y8.to (padF_self k am)
  have h9 := h4.below m9' (Nat.le_refl _)
  have z9 := kk.size
  clear oF oFM oR oRM y2 y3 y4 y5 y8 h4 q2 q3 q4 q5 q6 q7 b8 kk aF aR aM aN nC nN D S m8 m8' s0 hS lC lN tF tR tFM tRM
  have lC := block_lt_of_cell (a := ⟨C, 1, none⟩) C0.nodes
  have lN := block_lt_of_cell (a := ⟨N, 8, none⟩) C0.free
  have lF := vF.lt
  have lFM := vFM.lt
  have lR := vR.lt
  have lRM := vRM.lt
  go_wp2_with fail
  go_loopw [34] (fun i wr => ∃ t : Nat, t ≤ k ∧ i = .int .i64 t ∧ Below w9.heap.size w9 wr) (fun i _ => k - (intOf i).toNat)
  case atStart => exact ⟨0, Nat.zero_le _, rfl, Below.refl _ _⟩
  case round =>
    obtain ⟨t, ht, rfl, hb⟩ := hrel
    have hs := hb.size
    by_cases hlt : t < k
    · have d1 := vF.at t hlt
      have d2 := vFM.at t hlt
      have d3 := vR.at t hlt
      have d4 := vRM.at t hlt
      have d5 := u2.at t hlt
      have d6 := u3.at t hlt
      have d7 := u6.at t hlt
      have d8 := u7.at t hlt
      clear vF vFM vR vRM u2 u3 u4 u5 u6 u7 u8 wF' wR' m9' C1
      go_wp2_with fail
      refine (pad_any a4 k p4 k am _ hk (h9.below hb (Nat.le_refl _))).mono ?_
      rintro e w10 ⟨rfl, b10, l10⟩
      have mm := hb.trans (l10.mono hs)
      have t1 : (t : Int) < (k : Int) := by omega
      have c1 := (mm.cell (p := ⟨F, t, none⟩) lF).trans d1
      have c3 := (mm.cell (p := ⟨R, t, none⟩) lR).trans d3
      have c5 := (mm.cell (p := ⟨w1.heap.size, t, none⟩) (by show w1.heap.size < w9.heap.size; omega)).trans d5
      have c6 := (mm.cell (p := ⟨w2.heap.size, t, none⟩) (by show w2.heap.size < w9.heap.size; omega)).trans d6
      have c7 := (mm.cell (p := ⟨w5.heap.size, t, none⟩) (by show w5.heap.size < w9.heap.size; omega)).trans d7
      have c8 := (mm.cell (p := ⟨w6.heap.size, t, none⟩) (by show w6.heap.size < w9.heap.size; omega)).trans d8
      have c9 := (b10.to (padF_self k am)).at t hlt
      have x1 := (mm.cell (p := ⟨C, 1, none⟩) lC).trans C0.nodes
      have x2 := (mm.cell (p := ⟨C, 7, none⟩) lC).trans C0.fm
      have x3 := (mm.cell (p := ⟨C, 12, none⟩) lC).trans C0.rm
      have x4 : w10.cell? ⟨N, 8, none⟩ = some (.slice (some ⟨F, 0, none⟩) k k) := (mm.cell (p := ⟨N, 8, none⟩) lN).trans C0.free
      have x5 : w10.cell? ⟨N, 10, none⟩ = some (.slice (some ⟨R, 0, none⟩) k k) := (mm.cell (p := ⟨N, 10, none⟩) lN).trans C0.reach
      have c4 := (mm.cell (p := ⟨RM, t, none⟩) lRM).trans d4
      have c2 := (mm.cell (p := ⟨FM, t, none⟩) lFM).trans d2
      clear d1 d2 d3 d4 d5 d6 d7 d8 b10 l10 lF lFM lR lRM lC lN C0 h9 hb hs hp hp0 hp1 g2 g3 g4 g5 g6 g7 g8 z9 s1
      by_cases hm : padF n2 fm t < wrap64 (gf t - am t)
      · rw [show max (padF n2 fm t) (wrap64 (gf t - am t)) = wrap64 (gf t - am t) from by omega] at c2
        have s1 : (gr t != gr t) = false := by simp
        go_wp2_with fail
        go_quiet (fail)
        go_wp2
        go_roundw
        case rel => exact ⟨t + 1, by omega, by go_num, bel_drewN mm _⟩
        case measure => simp [intOf]; omega
      · rw [show max (padF n2 fm t) (wrap64 (gf t - am t)) = padF n2 fm t from by omega] at c2
        have s1 : (gr t != gr t) = false := by simp
        go_wp2_with fail
        go_quiet (fail)
        go_wp2
        go_roundw
        case rel => exact ⟨t + 1, by omega, by go_num, bel_drewN mm _⟩
        case measure => simp [intOf]; omega
    · have r1 := wF'.below hb wF'.lt
      have r2 := u4.below hb u4.lt
      have r3 := wR'.below hb wR'.lt
      have r4 := u5.below hb u5.lt
      have r5 := u8.below hb u8.lt
      have x1 := (hb.cell (p := ⟨C, 1, none⟩) lC).trans C0.nodes
      have x2 := (hb.cell (p := ⟨C, 10, none⟩) lC).trans C0.rf
      have x3 := (hb.cell (p := ⟨C, 11, none⟩) lC).trans C0.aimed
      have x4 : wr.cell? ⟨N, 2, none⟩ = some (.slice (some ⟨F', 0, none⟩) k k) := (hb.cell (p := ⟨N, 2, none⟩) lN).trans C1.free
      have x5 : wr.cell? ⟨N, 4, none⟩ = some (.slice (some ⟨R', 0, none⟩) k k) := (hb.cell (p := ⟨N, 4, none⟩) lN).trans C1.reach
      have lC' : C < wr.heap.size := by omega
      have m10 := m9'.trans (hb.mono (by omega))
      have h10 := h9.below hb (Nat.le_refl _)
      clear vF vFM vR vRM u2 u3 u4 u5 u6 u7 u8 wF' wR' m9' C0 C1 hb h9 lF lFM lR lRM lC lN hp hp0 hp1 g2 g3 g4 g5 g6 g7 g8 z9 s1
      go_wp2_with fail
      refine (same_any F' w3.heap.size k gf' _ hk r1 r2 k k).mono ?_
      rintro e w11 ⟨rfl, nn, rfl⟩
      go_wp2_with fail
      refine (same_any R' w4.heap.size k gr' _ hk (r3.drewN _) (r4.drewN _) k k).mono ?_
      rintro e w12 ⟨rfl, nm, rfl⟩
      go_wp2_with fail
      refine (pad_any a4 k p4 k am _ hk (h10.below (bel_drewN (Below.refl _ _) _) (Nat.le_refl _))).mono ?_
      rintro e w13 ⟨rfl, b13, l13⟩
      have l13' : Below wr.heap.size wr w13 := (bel_drewN (Below.refl _ _) _).trans l13
      have b13' : Blk w13 wr.heap.size 2 (row k am) := b13.to (padF_self k am)
      have r5' := r5.below l13' r5.lt
      have x1 := (l13'.cell (p := ⟨C, 1, none⟩) lC').trans x1
      have x2 := (l13'.cell (p := ⟨C, 10, none⟩) lC').trans x2
      have x3 := (l13'.cell (p := ⟨C, 11, none⟩) lC').trans x3
      have m13 := m10.trans (l13'.mono m10.size)
      have y1 : (rf == rf) = true := by simp
      clear b13 l13 l13' r1 r2 r3 r4 r5 h10 x4 x5 m10
      go_wp2_with fail
      refine (same_any w7.heap.size wr.heap.size k am _ hk r5' b13' k k).mono ?_
      rintro e w14 ⟨rfl, no, rfl⟩
      go_wp2_with fail
      try go_quiet (fail)
      go_wp2
      go_ret
      exact ⟨rfl, bel_drewN m13 _⟩
end Go.Proofs.Ybulkchpk
