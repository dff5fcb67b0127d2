/-
  LawS4183AHeapSort: the walk.
-/
import Derived.Test.YbulkchpkHeapD
namespace Go.Proofs.Ybulkchpk
open Go.ChangeShapes Go.WideShapes Go.ChangeAt Go.RowKit

/-! ### The plain law: what a heap hands out is the sorted list's next -/
theorem pop_law {f f' : Nat → Int} {r t : Nat} {S : List Int} (hs : S.Pairwise (fun x y => x ≤ y)) (P : HeapOn f (r + 1)) (hp : (els f (r + 1)).Perm (S.drop t)) (ht : t < S.length) (hp2 : (els f (r + 1)).Perm (f 0 :: els f' r)) :
    f 0 = S.getD t 0 ∧ (els f' r).Perm (S.drop (t + 1)) := by
  have ed : S.drop t = S[t] :: S.drop (t + 1) := List.drop_eq_getElem_cons ht
  have hsd := List.Pairwise.drop (i := t) hs
  rw [ed] at hp hsd
  have hle : ∀ y, y ∈ S.drop (t + 1) → S[t] ≤ y := fun y h => List.rel_of_pairwise_cons hsd h
  have m0 : f 0 ∈ els f (r + 1) := List.mem_map.2 ⟨0, by simp, rfl⟩
  have a1 : S[t] ≤ f 0 := by
    rcases List.mem_cons.1 (hp.subset m0) with h | h
    · omega
    · exact hle _ h
  have m1 : S[t] ∈ els f (r + 1) := hp.symm.subset (List.mem_cons_self)
  obtain ⟨p, hpm, hpe⟩ := List.mem_map.1 m1
  have a2 := P.least p (by simpa using hpm)
  have e : f 0 = S[t] := by omega
  refine ⟨by rw [e]; simp [List.getElem?_eq_getElem ht], ?_⟩
  have := hp2.symm.trans hp
  rw [e] at this
  exact this.cons_inv

theorem sorted_of (l : List Int) : (l.mergeSort fun x y => decide (x ≤ y)).Pairwise (fun x y => x ≤ y) := by
  have := List.pairwise_mergeSort (le := fun (x y : Int) => decide (x ≤ y)) (by intro a b c; simp; omega) (by intro a b; simp; omega) l
  simpa using this

/-- The make of the empty heap slice, its cells known. -/
theorem make24 (n : Nat) (hn : n ≤ 1024) : ∃ cur : Array Value, cur.toList = row n (fun _ => 0) ∧ ∀ W : World, (Instr.makeSlice 24 (.int .i64 0) (.int .i64 (n : Int))).run Yba.prog W = .ok (.slice (some ⟨W.heap.size, 0, none⟩) 0 n) (W.alloc (.cells cur 26)) := by
  obtain ⟨i0, hi, hz0, hz1, hz2⟩ := info_parts Yba.info26
  refine ⟨madeCells (Value.agg #[.int .i64 0]).cells (n * 1), ?_, fun W => ?_⟩
  · rw [← row_zero]
    simpa [Value.cells] using toList_madeCells_one (.int .i64 0) n
  · have := run_make (P := Yba.prog) W 24 26 i0 _ Yba.underlying24 hi hz0 .i64 .i64 0 (n : Int) (by omega) (by omega) (by rw [hz2]; omega) (by omega)
    simpa [hz1] using this

set_option maxRecDepth 100000 in
set_option maxHeartbeats 2000000 in
theorem heapsort_some (ad : Addr) (n c : Nat) (f0 : Nat → Int) (w : World) (hn : n ≤ 1024) (hc : ∀ j, j < n → w.cell? (ad.add j) = some (.int .i64 (f0 j))) (hb : 0 < n → ad.spot = none) :
    Calls Yba.prog 4 #[.slice (some ad) n c] w fun e w' => e = .returned (.bool true) ∧ Below w.heap.size w w' := by
  obtain ⟨cur, hcur, hmk⟩ := make24 n hn
  have b0 := (Blk.newA w cur 26).alloc (.cells #[.slice (some ⟨w.heap.size, 0, none⟩) 0 n] 24)
  rw [hcur] at b0
  have h0 := Blk.newA (w.alloc (.cells cur 26)) #[.slice (some ⟨w.heap.size, 0, none⟩) 0 n] 24
  simp only [World.size_alloc] at h0
  have H0 : Hid (HeapAt ((w.alloc (.cells cur 26)).alloc (.cells #[.slice (some ⟨w.heap.size, 0, none⟩) 0 n] 24)) (w.heap.size + 1) w.heap.size n 0 (fun _ => 0)) := ⟨h0, b0, by omega, Nat.zero_le _, hn⟩
  have HC : Hid (∀ j, j < n → w.cell? (ad.add j) = some (.int .i64 (f0 j))) := hc
  clear b0 h0 hcur hc
  go_enter Yba.func4, Yba.ntmps4
  go_wp2_with fail
  clear hmk
  go_loopw [17] (fun i wr => ∃ (t : Nat) (f : Nat → Int), t ≤ n ∧ i = .int .i64 t ∧ HeapAt wr (w.heap.size + 1) w.heap.size n t f ∧ HeapOn f t ∧ (els f t).Perm (els f0 t) ∧ Below w.heap.size w wr) (fun i _ => n - (intOf i).toNat)
  case atStart => exact ⟨0, _, Nat.zero_le _, rfl, H0.out, fun p h1 h2 => by omega, List.Perm.refl _, ((Below.refl _ _).alloc (Nat.le_refl _) _).alloc (by simp) _⟩
  case round =>
    clear H0
    obtain ⟨t, f, ht, rfl, H, P, hp, hw⟩ := hrel
    have HH : Hid (HeapAt wr (w.heap.size + 1) w.heap.size n t f) := H
    have HP : Hid (HeapOn f t ∧ (els f t).Perm (els f0 t)) := ⟨P, hp⟩
    clear H P hp
    by_cases hlt : t < n
    · obtain ⟨b, off, spot⟩ := ad
      have hspot : spot = none := hb (by omega)
      subst hspot
      have c0 := HC.out t hlt
      rw [Addr.add_mid] at c0
      have c1 := (hw.cell (p := ⟨b, off + t, none⟩) (block_lt_of_cell (a := ⟨b, off + t, none⟩) c0)).trans c0
      clear c0 hb
      have t1 : (t : Int) < (n : Int) := by omega
      go_wp2_with fail
      refine (hpush_any (w.heap.size + 1) w.heap.size n t f (f0 t) wr HH.out hlt HP.out.1).mono ?_
      rintro e w1 ⟨rfl, f', H1, P1, p1, k1⟩
      have HH1 : Hid (HeapAt w1 (w.heap.size + 1) w.heap.size n (t + 1) f') := H1
      have HP1 : Hid ((els f' (t + 1)).Perm (els f0 (t + 1))) := by
        unfold Hid
        rw [els_succ f0 t]
        exact p1.trans (List.Perm.append_right _ HP.out.2)
      have hw1 : Below w.heap.size w w1 := k1.below hw hw.size (by simp)
      have HO : Hid (HeapOn f' (t + 1)) := P1
      clear H1 P1 p1 k1 c1
      go_wp2
      go_roundw
      case rel => exact ⟨t + 1, f', by omega, by go_num, HH1.out, HO.out, HP1.out, hw1⟩
      case measure => simp [intOf]; omega
    · obtain rfl : t = n := by omega
      have hcw : ∀ j, j < t → wr.cell? (ad.add j) = some (.int .i64 (f0 j)) := fun j hj => (hw.cell (p := ad.add j) (block_lt_of_cell (HC.out j hj))).trans (HC.out j hj)
      have HCW : Hid (∀ j, j < t → wr.cell? (ad.add j) = some (.int .i64 (f0 j))) := hcw
      clear hcw
      go_wp2_with fail
      refine (clone_any ad t c f0 wr hn HCW.out).mono ?_
      rintro e w2 ⟨v, rfl, ho2, hne2, l2⟩
      rcases ho2.2 with ⟨hv, _⟩ | ⟨gw, cap, cu, rfl, hbase, _⟩
      · exact absurd hv hne2
      have HO2 : Hid (w2.ownsRow wr.heap.size 2 1 (.slice (some ⟨gw, 0, none⟩) t cap) t ((els f0 t).map (Value.int .i64))) := ho2
      clear ho2 hne2
      go_wp2_with fail
      have hsort := sort_own gw cap (els f0 t) w2 wr.heap.size (by rw [els_length]; exact HO2.out) (by rw [els_length]; omega)
      rw [els_length] at hsort
      refine hsort.mono ?_
      rintro e w3 ⟨rfl, ho3, k3⟩
      obtain ⟨S, hS⟩ : ∃ S, S = (els f0 t).mergeSort fun x y => decide (x ≤ y) := ⟨_, rfl⟩
      rw [← hS] at ho3
      have HS1 : Hid (S.Pairwise (fun x y => x ≤ y)) := by unfold Hid; rw [hS]; exact sorted_of _
      have HS2 : Hid (S.Perm (els f0 t)) := by unfold Hid; rw [hS]; exact List.mergeSort_perm _ _
      have hlen : S.length = t := by rw [HS2.out.length_eq, els_length]
      have HL : Hid (S.length = t) := hlen
      have hcell : Hid (∀ j, j < t → w3.cell? ⟨gw, j, none⟩ = some (.int .i64 (S.getD j 0))) := fun j hj => by
        rw [ho3.cellAt j (by omega)]
        simp [List.getElem?_eq_getElem (show j < S.length by omega)]
      have hszr := hw.size
      have q0 : w.heap.size + 1 < wr.heap.size := HH.out.head.lt
      have gwl : gw < w3.heap.size := by
        rcases ho3.2 with ⟨hv, _⟩ | ⟨g', cap', cu', hv, _, hh, _⟩
        · simp at hv
        · simp at hv
          obtain ⟨rfl, rfl⟩ := hv
          exact lt_of_block hh
      have k13 : Kept [gw] wr w3 := (Kept.of_below l2).trans k3
      have HH3 : Hid (HeapAt w3 (w.heap.size + 1) w.heap.size t t f) := HH.out.kept k13 (by simp; omega) (by simp; omega)
      have hw3 : Below w.heap.size w w3 := k13.below hw hszr (by simp; omega)
      have HP3 : Hid ((els f t).Perm S) := HP.out.2.trans HS2.out.symm
      have HPO : Hid (HeapOn f t) := HP.out.1
      clear hS ho3 k3 hsort hlen k13 HO2 l2 hw HH HP HC HCW
      go_wp2_with fail
      go_loopw [6] (fun i wr => ∃ (u r : Nat) (f' : Nat → Int), u + r = t ∧ i = .int .i64 u ∧ HeapAt wr (w.heap.size + 1) w.heap.size t r f' ∧ HeapOn f' r ∧ (els f' r).Perm (S.drop u) ∧ Kept [w.heap.size + 1, w.heap.size] w3 wr) (fun i _ => t - (intOf i).toNat)
      case atStart => exact ⟨0, t, f, by omega, rfl, HH3.out, HPO.out, by simpa using HP3.out, Kept.refl _ _⟩
      case round =>
        clear HH3 HPO HP3
        obtain ⟨u, r, f', hur, rfl, H, P, hp, hk⟩ := hrel
        have c1 := H.head.cell 0 _ rfl
        have l1 := H.head.lt
        have HH : Hid (HeapAt wr (w.heap.size + 1) w.heap.size t r f') := H
        have HP : Hid (HeapOn f' r ∧ (els f' r).Perm (S.drop u)) := ⟨P, hp⟩
        have HK : Hid (Kept [w.heap.size + 1, w.heap.size] w3 wr) := hk
        clear H P hp hk
        by_cases hlt : u < t
        · obtain ⟨r', rfl⟩ : ∃ r', r = r' + 1 := ⟨r - 1, by omega⟩
          have z1 : ((r' : Int) + 1 == 0) = false := by simp; omega
          go_wp2_with fail
          refine (len_any _ _ _ _).mono ?_
          rintro e w4 ⟨rfl, rfl⟩
          go_wp2_with fail
          refine (hpop_any (w.heap.size + 1) w.heap.size t r' f' _ HH.out HP.out.1).mono ?_
          rintro e w5 ⟨rfl, f2, H5, P5, p5, k5⟩
          obtain ⟨ex, hp5⟩ := pop_law HS1.out HP.out.1 HP.out.2 (by have := HL.out; omega) p5
          have HH5 : Hid (HeapAt w5 (w.heap.size + 1) w.heap.size t r' f2) := H5
          have HP5 : Hid (HeapOn f2 r' ∧ (els f2 r').Perm (S.drop (u + 1))) := ⟨P5, hp5⟩
          have HK5 := HK.out.trans k5
          have c5 := (HK5.cell (p := ⟨gw, u, none⟩) gwl (by simp; omega)).trans (hcell.out u hlt)
          rw [← ex] at c5
          have HX : Hid (Kept [w.heap.size + 1, w.heap.size] w3 w5) := HK5
          have g5 : gw < w5.heap.size := by have := HK5.size; omega
          have e1 := assert26_yes
          have t1 : (u : Int) < (t : Int) := by omega
          clear H5 P5 p5 k5 ex hp5 HK5 c1 l1 z1
          go_wp2_with fail
          go_quiet (fail)
          go_wp2
          go_roundw
          case rel => exact ⟨u + 1, r', f2, by omega, by go_num, ⟨(HH5.out.head.alloc _).drewN _, (HH5.out.body.alloc _).drewN _, HH5.out.ne, HH5.out.le, HH5.out.small⟩, HP5.out.1, HP5.out.2, (HX.out.alloc _).drewN _⟩
          case measure => simp [intOf]; omega
        · obtain rfl : r = 0 := by omega
          have hwr := HK.out.below hw3 hw3.size (by simp)
          go_wp2
          go_ret
          exact ⟨by simp, hwr⟩

set_option maxRecDepth 100000 in
set_option maxHeartbeats 1000000 in
theorem heapsort_nil (w : World) : Calls Yba.prog 4 #[.slice none 0 0] w fun e w' => e = .returned (.bool true) ∧ Below w.heap.size w w' := by
  obtain ⟨cur, _, hmk⟩ := make24 0 (by omega)
  have hmk : ∀ W : World, (Instr.makeSlice 24 (.int .i64 0) (.int .i64 0)).run Yba.prog W = .ok (.slice (some ⟨W.heap.size, 0, none⟩) 0 0) (W.alloc (.cells cur 26)) := hmk
  have h0 := Blk.newA (w.alloc (.cells cur 26)) #[.slice (some ⟨w.heap.size, 0, none⟩) 0 0] 24
  simp only [World.size_alloc] at h0
  have H0 : Hid (Blk ((w.alloc (.cells cur 26)).alloc (.cells #[.slice (some ⟨w.heap.size, 0, none⟩) 0 0] 24)) (w.heap.size + 1) 24 [.slice (some ⟨w.heap.size, 0, none⟩) 0 0]) := h0
  clear h0
  go_enter Yba.func4, Yba.ntmps4
  go_wp2_with fail
  clear hmk
  go_loopw [17] (fun i wr => i = .int .i64 0 ∧ Blk wr (w.heap.size + 1) 24 [.slice (some ⟨w.heap.size, 0, none⟩) 0 0] ∧ Below w.heap.size w wr) (fun _ _ => 0)
  case atStart => exact ⟨rfl, H0.out, ((Below.refl _ _).alloc (Nat.le_refl _) _).alloc (by simp) _⟩
  case round =>
    clear H0
    obtain ⟨rfl, hb, hw⟩ := hrel
    have HB : Hid (Blk wr (w.heap.size + 1) 24 [.slice (some ⟨w.heap.size, 0, none⟩) 0 0]) := hb
    clear hb
    go_wp2_with fail
    refine (clone_nil _).mono ?_
    rintro e w2 ⟨rfl, rfl⟩
    go_wp2_with fail
    refine (sort_none _ _ _).mono ?_
    rintro e w3 ⟨rfl, rfl⟩
    go_wp2_with fail
    go_loopw [6] (fun i wr => i = .int .i64 0 ∧ Blk wr (w.heap.size + 1) 24 [.slice (some ⟨w.heap.size, 0, none⟩) 0 0] ∧ Below w.heap.size w wr) (fun _ _ => 0)
    case atStart => exact ⟨rfl, HB.out, hw⟩
    case round =>
      clear HB hw
      obtain ⟨rfl, hb, hw⟩ := hrel
      have c1 := hb.cell 0 _ rfl
      clear hb
      go_wp2
      go_ret
      exact ⟨rfl, hw⟩
end Go.Proofs.Ybulkchpk
