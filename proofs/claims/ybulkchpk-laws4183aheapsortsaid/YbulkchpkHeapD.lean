/-
  slices.Clone at []int64 by its contract; slices.Sort at []int64: the library's contract in this seat's words.
-/
import Derived.Test.YbulkchpkHeapC
import Derived.Test.YbulkchpkSort
import Derived.Test.YbulkchpkPad
import Derived.Sort.OwnSortedInts
import Derived.Shelf.SortM.SortNone
namespace Go.Proofs.Ybulkchpk
open Go.ChangeShapes Go.WideShapes Go.ChangeAt Go.RowKit

theorem sort_none (p : Option Addr) (c : Nat) (w : World) : Calls Yba.prog 12 #[.slice p 0 c] w fun e w' => e = .returned (.tuple #[]) ∧ w' = w :=
  AnyM.slices_Sort_int_none Yba.sort5 p c w

theorem sort_own (g c : Nat) (zs : List Int) (w : World) (base : Nat) (h : w.ownsRow base 2 1 (.slice (some ⟨g, 0, none⟩) zs.length c) zs.length (zs.map (Value.int .i64))) (hz : zs.length ≤ 1024) :
    Calls Yba.prog 12 #[.slice (some ⟨g, 0, none⟩) zs.length c] w fun e w' => e = .returned (.tuple #[]) ∧ w'.ownsRow base 2 1 (.slice (some ⟨g, 0, none⟩) zs.length c) zs.length ((zs.mergeSort fun x y => decide (x ≤ y)).map (Value.int .i64)) ∧ Kept [g] w w' := by
  rcases h.2 with ⟨hn, _⟩ | ⟨g', cap, cur, hv, hbase, hb, h1, h2, h3, h4⟩
  · simp at hn
  simp at hv
  obtain ⟨rfl, rfl⟩ := hv
  refine (AnyM.slices_Sort_int Yba.sort5 g 0 c zs w (holds_of_blockI hb (by simpa using h4)) (Array.getElem?_eq_some_iff.1 hb).1 (by omega)).mono ?_
  rintro e w' ⟨rfl, n, os, rfl⟩
  exact ⟨rfl, ownsRow_sortedI (by simp) hbase hb h1 h2 h3, (Kept.refl _ _).grown (grownBy_sortedI _) (by intro k hk; simp at hk; simp [hk])⟩

theorem eqnil_yes (w : World) : (binOp .eql 22 (.slice none 0 0) (.slice none 0 0)).run Yba.prog w = .ok (.bool true) w := by kernel_rfl
theorem eqnil_no (ad : Addr) (n c : Nat) (w : World) : (binOp .eql 22 (.slice (some ad) n c) (.slice none 0 0)).run Yba.prog w = .ok (.bool false) w := by kernel_rfl

set_option maxRecDepth 100000 in
set_option maxHeartbeats 1000000 in
theorem clone_nil (w : World) : Calls Yba.prog 11 #[.slice none 0 0] w fun e w' => e = .returned (.slice none 0 0) ∧ w' = w := by
  have e1 := eqnil_yes
  go_enter Yba.func11, Yba.ntmps11
  go_wp2
  go_ret
  exact ⟨rfl, rfl⟩

set_option maxRecDepth 100000 in
set_option maxHeartbeats 1000000 in
theorem clone_any (ad : Addr) (n c : Nat) (f : Nat → Int) (w : World) (hn : n ≤ 1024) (hc : ∀ j, j < n → w.cell? (ad.add j) = some (.int .i64 (f j))) :
    Calls Yba.prog 11 #[.slice (some ad) n c] w fun e w' => ∃ v, e = .returned v ∧ w'.ownsRow w.heap.size 2 1 v n ((els f n).map (Value.int .i64)) ∧ v ≠ .slice none 0 0 ∧ Below w.heap.size w w' := by
  obtain ⟨i0, hi, hz0, hz1, hz2⟩ := info_parts Yba.info2
  have e1 := eqnil_no
  have o1 : Hid ((w.alloc (.cells #[] 2)).ownsRow w.heap.size 2 1 (.slice (some ⟨w.heap.size, 0, none⟩) 0 0) 0 []) := World.ownsRow_made w #[] 0 (Nat.le_refl _) (Nat.zero_le _) rfl
  have hnw : Hid (∀ j u, ((els f n).map (Value.int .i64))[j]? = some u → (w.alloc (.cells #[] 2)).cell? (ad.add j) = some u) := fun j u hu => by
    have hj : j < n := by have := (List.getElem?_eq_some_iff.1 hu).1; simpa [els_length] using this
    have h1 := hc j hj
    rw [World.cell?_alloc_lt _ _ _ (block_lt_of_cell h1), h1]
    rw [← hu]
    simp [els, List.getElem?_range hj]
  have hon : Hid (∀ u ∈ (els f n).map (Value.int .i64), u.oneCell' = true) := by
    intro u hu
    obtain ⟨x, _, rfl⟩ := List.mem_map.1 hu
    rfl
  have h63 : Hid (0 + n ≤ maxLen) := by unfold Hid maxLen; omega
  have hby : Hid ((0 + n) * 8 ≤ 140737488355328) := by unfold Hid; omega
  clear hc
  go_enter Yba.func11, Yba.ntmps11
  go_wp2_with (at_builtin; refine wpList_append_own (w.alloc (.cells #[] 2)) rfl (.tmp 5) (.tmp 6) 22 rfl w.heap.size 2 i0 (.int .i64 0) 1 8 Yba.underlying22 hi hz0 hz1 hz2 rfl (by decide) (.slice (some ⟨w.heap.size, 0, none⟩) 0 0) 0 [] rfl o1.out ad n c ((els f n).map (Value.int .i64)) rfl (by simp [els_length]) hnw.out hon.out h63.out hby.out (by simp) ?_; intro v' w' ho' hg' hn')
  have hb : Below w.heap.size w w' := ((Below.refl _ _).alloc (Nat.le_refl _) _).grown hg' (by simp) (by intro k hk; simp [Value.ownBlock] at hk; omega)
  have hne : v' ≠ .slice none 0 0 := fun e => by have := (hn'.1 e).1; simp at this
  have ho2 : Hid (w'.ownsRow w.heap.size 2 1 v' n ((els f n).map (Value.int .i64))) := by unfold Hid; simpa using ho'
  clear ho' hg' hn' o1 hnw hon h63 hby
  go_wp2
  go_ret
  exact ⟨v', rfl, ho2.out, hne, hb⟩
end Go.Proofs.Ybulkchpk
