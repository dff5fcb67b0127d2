/-
  (*cluster).occupy by its contract.
-/
import Derived.Test.YbulkchpkRows
import Derived.Test.YbulkchpkRow
import Derived.WalkKit
import Derived.ProofKit
import Derived.OpenShut
import Derived.Deep.QuietTactic
import Derived.BigQuiet
import Derived.BigRegion
import Derived.RegionTactic
import Derived.LoopTactic
namespace Go.Proofs.Ybulkchpk
open Go.ChangeShapes Go.WideShapes Go.ChangeAt Go.RowKit

/-- The cells of the cluster C that occupy reads, and those of its node at offset o of the block N. -/
structure Clu (w : World) (C N o F R FM RM k : Nat) (aimed : Bool) (rf : Int) : Prop where
  nodes : w.cell? ⟨C, 1, none⟩ = some (.slice (some ⟨N, 0, none⟩) 2 2)
  fm : w.cell? ⟨C, 7, none⟩ = some (.slice (some ⟨FM, 0, none⟩) k k)
  rf : w.cell? ⟨C, 10, none⟩ = some (.int .i64 rf)
  aimed : w.cell? ⟨C, 11, none⟩ = some (.bool aimed)
  rm : w.cell? ⟨C, 12, none⟩ = some (.slice (some ⟨RM, 0, none⟩) k k)
  free : w.cell? ⟨N, o + 2, none⟩ = some (.slice (some ⟨F, 0, none⟩) k k)
  reach : w.cell? ⟨N, o + 4, none⟩ = some (.slice (some ⟨R, 0, none⟩) k k)

theorem Clu.kept {w w' : World} {C N o F R FM RM k : Nat} {aimed : Bool} {rf : Int} (h : Clu w C N o F R FM RM k aimed rf) {S : List Nat} (hk : Kept S w w') (hC : C ∉ S) (hN : N ∉ S) : Clu w' C N o F R FM RM k aimed rf := by
  have c : ∀ j, w'.cell? ⟨C, j, none⟩ = w.cell? ⟨C, j, none⟩ := fun j => hk.cell (p := ⟨C, j, none⟩) (block_lt_of_cell (a := ⟨C, 1, none⟩) h.nodes) hC
  have n : ∀ j, w'.cell? ⟨N, j, none⟩ = w.cell? ⟨N, j, none⟩ := fun j => hk.cell (p := ⟨N, j, none⟩) (block_lt_of_cell (a := ⟨N, o + 2, none⟩) h.free) hN
  exact ⟨(c 1).trans h.nodes, (c 7).trans h.fm, (c 10).trans h.rf, (c 11).trans h.aimed, (c 12).trans h.rm, (n _).trans h.free, (n _).trans h.reach⟩

/-- One number moved by an amount. -/
def mv (s x a : Int) : Int := wrap64 (x - wrap64 (s * a))

/-- The first t numbers have turned to f', the others stand. -/
def upto (t : Nat) (f' f : Nat → Int) (i : Nat) : Int := if i < t then f' i else f i
theorem upto_zero (f' f : Nat → Int) (k : Nat) : row k (upto 0 f' f) = row k f := row_congr _ _ _ (fun i _ => by simp [upto])
theorem upto_full (f' f : Nat → Int) (k : Nat) : row k (upto k f' f) = row k f' := row_congr _ _ _ (fun i hi => by simp [upto, hi])
theorem upto_at (t : Nat) (f' f : Nat → Int) : upto t f' f t = f t := by simp [upto]
theorem upto_put {w : World} {g k t : Nat} {e : TypeId} {f' f : Nat → Int} (h : Blk w g e (row k (upto t f' f))) (v : Int) (hv : f' t = v) : Blk (w.setCell ⟨g, t, none⟩ (.int .i64 v)) g e (row k (upto (t + 1) f' f)) := by
  refine h.put t v _ ?_ ?_
  · simp [upto, hv]
  · intro i _ hne
    unfold upto
    by_cases h : i < t
    · rw [if_pos (by omega), if_pos h]
    · rw [if_neg (by omega), if_neg h]

theorem nm1 {c a : Nat} (h1 : a ≠ c) : c ∉ [a] := by simp [Ne.symm h1]
theorem nm2 {c a b : Nat} (h1 : a ≠ c) (h2 : b ≠ c) : c ∉ [a, b] := by simp [Ne.symm h1, Ne.symm h2]
theorem max_if (a b : Int) : (if a < b then b else a) = max a b := by
  by_cases h : a < b
  · rw [if_pos h]; omega
  · rw [if_neg h]; omega

/-- That the rows which are written lie apart from all else that is read. -/
structure Apart (F FM R RM A C N : Nat) : Prop where
  f1 : F ≠ FM
  f2 : F ≠ R
  f3 : F ≠ RM
  f4 : F ≠ A
  f5 : F ≠ C
  f6 : F ≠ N
  m2 : FM ≠ R
  m3 : FM ≠ RM
  m4 : FM ≠ A
  m5 : FM ≠ C
  m6 : FM ≠ N
  r3 : R ≠ RM
  r4 : R ≠ A
  r5 : R ≠ C
  r6 : R ≠ N
  n4 : RM ≠ A
  n5 : RM ≠ C
  n6 : RM ≠ N

set_option maxRecDepth 100000 in
set_option maxHeartbeats 2000000 in
theorem occ_any (C N ni F R FM RM A k : Nat) (aimed mvs : Bool) (rf level s : Int) (f fm r rm am : Nat → Int) (w : World) (hk : k ≤ 1024) (hni : ni = 0 ∨ ni = 1)
    (hc : Clu w C N (6 * ni) F R FM RM k aimed rf) (hF : Blk w F 2 (row k f)) (hFM : Blk w FM 2 (row k fm)) (hR : Blk w R 2 (row k r)) (hRM : Blk w RM 2 (row k rm)) (hA : Blk w A 2 (row k am))
    (D : Apart F FM R RM A C N) (hst : (aimed && decide (rf ≤ level)) = mvs) :
    Calls Yba.prog 23 #[.pointer (some ⟨C, 0, none⟩), .int .i64 ni, .slice (some ⟨A, 0, none⟩) k k, .int .i64 level, .int .i64 s] w fun e w' =>
      e = .returned (.tuple #[]) ∧ Blk w' F 2 (row k (fun i => mv s (f i) (am i))) ∧ Blk w' FM 2 (row k (fun i => max (fm i) (mv s (f i) (am i)))) ∧
      Blk w' R 2 (row k (fun i => if mvs then mv s (r i) (am i) else r i)) ∧ Blk w' RM 2 (row k (fun i => if mvs then max (rm i) (mv s (r i) (am i)) else rm i)) ∧ Kept [F, FM, R, RM] w w' := by
  have c1 := hc.nodes
  rcases hni with rfl | rfl
  all_goals
    go_enter Yba.func23, Yba.ntmps23
    go_wp2
    clear c1
    go_loopw [23] (fun i wr => ∃ t : Nat, t ≤ k ∧ i = .int .i64 t ∧ Blk wr F 2 (row k (upto t (fun i => mv s (f i) (am i)) f)) ∧ Blk wr FM 2 (row k (upto t (fun i => max (fm i) (mv s (f i) (am i))) fm)) ∧ Kept [F, FM] w wr) (fun i _ => k - (intOf i).toNat)
    case atStart => exact ⟨0, Nat.zero_le _, rfl, by rw [upto_zero]; exact hF, by rw [upto_zero]; exact hFM, Kept.refl _ _⟩
    case round =>
      obtain ⟨t, ht, rfl, gF, gM, gk⟩ := hrel
      have hc' := hc.kept gk (nm2 D.f5 D.m5) (nm2 D.f6 D.m6)
      have gA := gk.blk hA (nm2 D.f4 D.m4)
      by_cases hlt : t < k
      · have e1 := hc'.free
        simp only [Nat.reduceMul, Nat.reduceAdd] at e1
        have a1 := gA.at t hlt
        have a2 := gF.at t hlt
        rw [upto_at] at a2
        have z1 := gF.free t
        clear hF hFM hR hRM hA hc hst
        go_wp2_with fail
        generalize hW : wr.setCell ⟨F, t, none⟩ (Value.int .i64 (wrap64 (f t - wrap64 (s * am t)))) = w2
        have k2 : Kept [F] wr w2 := by rw [← hW]; exact (Kept.refl _ _).setCell (.inl (by simp)) _
        have gF2 : Blk w2 F 2 (row k (upto (t + 1) (fun i => mv s (f i) (am i)) f)) := by rw [← hW]; exact upto_put gF _ rfl
        have gM2 := k2.blk gM (nm1 D.f1)
        have gk2 : Kept [F, FM] w w2 := gk.trans (k2.mono (by simp))
        clear hW
        have hc2 := hc'.kept k2 (nm1 D.f5) (nm1 D.f6)
        have e1 := hc2.free
        simp only [Nat.reduceMul, Nat.reduceAdd] at e1
        have e2 := hc2.fm
        have a3 := gM2.at t hlt
        rw [upto_at] at a3
        have a4 : w2.cell? ⟨F, t, none⟩ = some (.int .i64 (mv s (f t) (am t))) := by rw [gF2.at t hlt]; simp [upto]
        have z2 := gM2.free t
        have t1 : (t : Int) < (k : Int) := by omega
        clear hc' a1 a2 z1 hc2 gF gM gk gA k2
        go_region
        go_wp2
        go_roundw
        case rel =>
          refine ⟨t + 1, by omega, by go_num, (gF2.other D.f1 _).drew, ?_, (gk2.setCell (.inl (by simp)) _).drew⟩
          exact (upto_put gM2 _ (max_if _ _).symm).drew
        case measure => simp [intOf]; omega
      · obtain rfl : t = k := by omega
        rw [upto_full] at gF gM
        have gR := gk.blk hR (nm2 D.f2 D.m2)
        have gRM := gk.blk hRM (nm2 D.f3 D.m3)
        have gk4 : Kept [F, FM, R, RM] w wr := gk.mono (by simp)
        have e1 := hc'.aimed
        have e2 := hc'.rf
        clear hF hFM hR hRM hA hc
        cases aimed with
        | false =>
          simp only [Bool.false_and] at hst
          subst hst
          clear hc'
          go_wp2
          go_end0
          exact ⟨rfl, gF, gM, by simpa using gR, by simpa using gRM, gk4⟩
        | true =>
          by_cases hl : rf ≤ level
          · simp only [hl, decide_true, Bool.and_self] at hst
            subst hst
            have HC : Hid (Clu wr C N _ F R FM RM t true rf) := hc'
            clear hc'
            go_wp2
            clear e1 e2
            go_loopw [76] (fun i wz => ∃ u : Nat, u ≤ t ∧ i = .int .i64 u ∧ Blk wz R 2 (row t (upto u (fun i => mv s (r i) (am i)) r)) ∧ Blk wz RM 2 (row t (upto u (fun i => max (rm i) (mv s (r i) (am i))) rm)) ∧ Kept [R, RM] wr wz) (fun i _ => t - (intOf i).toNat)
            case atStart => exact ⟨0, Nat.zero_le _, rfl, by rw [upto_zero]; exact gR, by rw [upto_zero]; exact gRM, Kept.refl _ _⟩
            case round =>
              obtain ⟨u, hu, rfl, yR, yM, yk⟩ := hrel
              have hc' := HC.out.kept yk (nm2 D.r5 D.n5) (nm2 D.r6 D.n6)
              by_cases hlu : u < t
              · have e1 := hc'.reach
                simp only [Nat.reduceMul, Nat.reduceAdd] at e1
                have a1 := (yk.blk gA (nm2 D.r4 D.n4)).at u hlu
                have a2 := yR.at u hlu
                rw [upto_at] at a2
                have z1 := yR.free u
                clear gF gM gR gRM gA gk gk4
                go_wp2_with fail
                generalize hW : wr.setCell ⟨R, u, none⟩ (Value.int .i64 (wrap64 (r u - wrap64 (s * am u)))) = w2
                have k2 : Kept [R] wr w2 := by rw [← hW]; exact (Kept.refl _ _).setCell (.inl (by simp)) _
                have gR2 : Blk w2 R 2 (row t (upto (u + 1) (fun i => mv s (r i) (am i)) r)) := by rw [← hW]; exact upto_put yR _ rfl
                have gM2 := k2.blk yM (nm1 D.r3)
                have gk2 := yk.trans (k2.mono (T := [R, RM]) (by simp))
                clear hW
                have hc2 := hc'.kept k2 (nm1 D.r5) (nm1 D.r6)
                have e1 := hc2.reach
                simp only [Nat.reduceMul, Nat.reduceAdd] at e1
                have e2 := hc2.rm
                have a3 := gM2.at u hlu
                rw [upto_at] at a3
                have a4 : w2.cell? ⟨R, u, none⟩ = some (.int .i64 (mv s (r u) (am u))) := by rw [gR2.at u hlu]; simp [upto]
                have z2 := gM2.free u
                have t1 : (u : Int) < (t : Int) := by omega
                clear hc' a1 a2 z1 hc2 yR yM yk k2
                go_region
                go_wp2
                go_roundw
                case rel =>
                  refine ⟨u + 1, by omega, by go_num, (gR2.other D.r3 _).drew, ?_, (gk2.setCell (.inl (by simp)) _).drew⟩
                  exact (upto_put gM2 _ (max_if _ _).symm).drew
                case measure => simp [intOf]; omega
              · obtain rfl : u = t := by omega
                rw [upto_full] at yR yM
                have y1 := yk.blk gF (nm2 D.f2.symm D.f3.symm)
                have y2 := yk.blk gM (nm2 D.m2.symm D.m3.symm)
                have y3 : Kept [F, FM, R, RM] w wr := gk4.trans (yk.mono (by simp))
                clear hc' gF gM gR gRM gA gk gk4
                go_wp2
                go_end0
                exact ⟨rfl, y1, y2, by simpa using yR, by simpa using yM, y3⟩
          · simp only [hl, decide_false, Bool.and_false] at hst
            subst hst
            clear hc'
            go_wp2
            go_end0
            exact ⟨rfl, gF, gM, by simpa using gR, by simpa using gRM, gk4⟩
end Go.Proofs.Ybulkchpk
