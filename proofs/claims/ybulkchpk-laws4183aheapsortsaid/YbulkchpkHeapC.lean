/-
  container/heap's Push and Pop by their contracts.
-/
import Derived.Test.YbulkchpkHeapB
namespace Go.Proofs.Ybulkchpk
open Go.ChangeShapes Go.WideShapes Go.ChangeAt Go.RowKit

set_option maxRecDepth 100000 in
set_option maxHeartbeats 1000000 in
theorem hpush_any (hB g c k : Nat) (f : Nat → Int) (x : Int) (w : World) (H : HeapAt w hB g c k f) (hk : k < c) (P : HeapOn f k) :
    Calls Yba.prog 10 #[.iface 31 (.pointer (some ⟨hB, 0, none⟩)), .iface 26 (.agg #[.int .i64 x])] w fun e w' => e = .returned (.tuple #[]) ∧ ∃ f', HeapAt w' hB g c (k + 1) f' ∧ HeapOn f' (k + 1) ∧ (els f' (k + 1)).Perm (els f k ++ [x]) ∧ Kept [hB, g] w w' := by
  have hm := m_push
  have hsm := H.small
  go_enter Yba.func10, Yba.ntmps10
  go_wp2_with fail
  refine (pushm_any hB g c k f x w H hk).mono ?_
  rintro e w1 ⟨rfl, H1, k1⟩
  have hl := m_len (H1.head.cell 0 _ rfl)
  have HH1 : Hid (HeapAt w1 hB g c (k + 1) (fun p => if p = k then x else f p)) := H1
  clear H1 hm
  go_wp2_with fail
  refine (len_any _ _ _ _).mono ?_
  rintro e w2 ⟨rfl, rfl⟩
  clear hl
  go_wp2_with fail
  refine (up_any hB g c (k + 1) k _ w2 HH1.out (by omega) (UpInv.start P (fun p hp => by rw [if_neg (by omega)]))).mono ?_
  rintro e w3 ⟨rfl, f', H3, P3, p3, k3⟩
  have HH3 : Hid (HeapAt w3 hB g c (k + 1) f') := H3
  clear H3
  go_wp2
  go_end0
  refine ⟨rfl, f', HH3.out, P3, p3.trans ?_, k1.trans (k3.mono (by simp))⟩
  rw [els_succ, els_congr _ f k (fun p hp => by rw [if_neg (by omega)])]
  simp

set_option maxRecDepth 100000 in
set_option maxHeartbeats 1000000 in
theorem hpop_any (hB g c k : Nat) (f : Nat → Int) (w : World) (H : HeapAt w hB g c (k + 1) f) (P : HeapOn f (k + 1)) :
    Calls Yba.prog 14 #[.iface 31 (.pointer (some ⟨hB, 0, none⟩))] w fun e w' => e = .returned (.iface 26 (.agg #[.int .i64 (f 0)])) ∧ ∃ f', HeapAt w' hB g c k f' ∧ HeapOn f' k ∧ (els f (k + 1)).Perm (f 0 :: els f' k) ∧ Kept [hB, g] w w' := by
  have hl := m_len (H.head.cell 0 _ rfl)
  have hs := m_swap (H.head.cell 0 _ rfl)
  have hp := m_pop
  have hsm := H.small
  have hle := H.le
  have HH : Hid (HeapAt w hB g c (k + 1) f) := H
  clear H
  go_enter Yba.func14, Yba.ntmps14
  go_wp2_with fail
  refine (len_any _ _ _ _).mono ?_
  rintro e w0 ⟨rfl, rfl⟩
  clear hl
  go_wp2_with fail
  refine (swap_heap hB g c (k + 1) 0 k f w0 HH.out (by omega) (by omega)).mono ?_
  rintro e w1 ⟨rfl, H1, k1⟩
  have HH1 : Hid (HeapAt w1 hB g c (k + 1) (swp f 0 k)) := H1
  clear hs H1
  go_wp2_with fail
  refine (down_any hB g c (k + 1) k (swp f 0 k) w1 HH1.out (by omega) (DownInv.start P)).mono ?_
  rintro e w2 ⟨⟨bb, rfl⟩, f', H2, P2, p2, o2, k2⟩
  have HH2 : Hid (HeapAt w2 hB g c (k + 1) f') := H2
  have HO : Hid (f' k = f 0) := by unfold Hid; rw [o2 k (Nat.le_refl _), swp_r]
  have HP : Hid ((els f (k + 1)).Perm (f 0 :: els f' k)) := by
    have a := (els_swp f 0 k (k + 1) (by omega) (by omega)).symm
    rw [els_succ (swp f 0 k) k, swp_r] at a
    exact a.trans ((List.Perm.append_right _ p2.symm).trans (List.perm_append_singleton _ _))
  clear H2 p2 o2
  go_wp2_with fail
  refine (pop_any _ hB g k c (f' k) (by omega) (by unfold maxLen; omega) HH2.out.head (HH2.out.body.at k (by omega))).mono ?_
  rintro e w3 ⟨rfl, b3, k3⟩
  have H3 : Hid (HeapAt w3 hB g c k f') := ⟨b3, k3.blk HH2.out.body (by simpa using HH2.out.ne.symm), HH2.out.ne, by omega, hsm⟩
  clear b3
  rw [HO.out]
  go_wp2
  go_ret
  exact ⟨rfl, f', H3.out, P2, HP.out, ((k1.mono (by simp)).trans (k2.mono (by simp))).trans (k3.mono (by simp))⟩
end Go.Proofs.Ybulkchpk
