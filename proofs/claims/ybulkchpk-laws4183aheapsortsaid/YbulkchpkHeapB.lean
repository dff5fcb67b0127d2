/-
  The heap slice's Push, and container/heap's four functions, by their contracts.
-/
import Derived.Test.YbulkchpkHeapA
import Derived.Test.YbulkchpkHeapP
import Derived.Test.YbulkchpkPop
import Derived.Deep.RegionLaw
import Derived.Test.YbulkchpkStat
namespace Go.Proofs.Ybulkchpk
open Go.ChangeShapes Go.WideShapes Go.ChangeAt Go.RowKit

theorem m_push (a : Addr) (w : World) : (method 336 31 (.pointer (some a)) "Push").run Yba.prog w = .ok (67, .pointer (some a)) w := by kernel_rfl
theorem m_pop (a : Addr) (w : World) : (method 336 31 (.pointer (some a)) "Pop").run Yba.prog w = .ok (9, .pointer (some a)) w := by kernel_rfl
theorem m_len0 (a : Addr) (w : World) : (method 336 31 (.pointer (some a)) "Len").run Yba.prog w = (do let v ← load a; pure ((13 : FuncId), v) : Sem (FuncId × Value)).run Yba.prog w := by kernel_rfl
theorem m_less0 (a : Addr) (w : World) : (method 336 31 (.pointer (some a)) "Less").run Yba.prog w = (do let v ← load a; pure ((64 : FuncId), v) : Sem (FuncId × Value)).run Yba.prog w := by kernel_rfl
theorem m_swap0 (a : Addr) (w : World) : (method 336 31 (.pointer (some a)) "Swap").run Yba.prog w = (do let v ← load a; pure ((65 : FuncId), v) : Sem (FuncId × Value)).run Yba.prog w := by kernel_rfl
theorem m_len {a : Addr} {w : World} {v : Value} (h : w.cell? a = some v) : (method 336 31 (.pointer (some a)) "Len").run Yba.prog w = .ok (13, v) w := by
  rw [m_len0]; simp [h]
theorem m_less {a : Addr} {w : World} {v : Value} (h : w.cell? a = some v) : (method 336 31 (.pointer (some a)) "Less").run Yba.prog w = .ok (64, v) w := by
  rw [m_less0]; simp [h]
theorem m_swap {a : Addr} {w : World} {v : Value} (h : w.cell? a = some v) : (method 336 31 (.pointer (some a)) "Swap").run Yba.prog w = .ok (65, v) w := by
  rw [m_swap0]; simp [h]
theorem assert26_one (W : World) (v : Value) : (Instr.typeAssert (.iface 26 v) 20 26 false).run Yba.prog W = .ok v W := by kernel_rfl

/-- A heap slice of k numbers f in block g of c cells, its variable in block hB. -/
structure HeapAt (w : World) (hB g c k : Nat) (f : Nat → Int) : Prop where
  head : Blk w hB 24 [.slice (some ⟨g, 0, none⟩) k c]
  body : Blk w g 26 (row c f)
  ne : hB ≠ g
  le : k ≤ c
  small : c ≤ 1024

set_option maxRecDepth 100000 in
set_option maxHeartbeats 1000000 in
theorem pushm_any (hB g c k : Nat) (f : Nat → Int) (x : Int) (w : World) (H : HeapAt w hB g c k f) (hk : k < c) :
    Calls Yba.prog 67 #[.pointer (some ⟨hB, 0, none⟩), .iface 26 (.agg #[.int .i64 x])] w fun e w' => e = .returned (.tuple #[]) ∧ HeapAt w' hB g c (k + 1) (fun p => if p = k then x else f p) ∧ Kept [hB, g] w w' := by
  obtain ⟨i0, hi, hz0, hz1, hz2⟩ := info_parts Yba.info26
  have c1 := H.head.cell 0 _ rfl
  have f1 := H.head.free 0
  have l1 := H.head.lt
  have l2 := H.body.lt
  have c2 := H.body.at k hk
  have f2 := H.body.free k
  have e1 := assert26_one
  have hne := H.ne
  have hsm := H.small
  have bb := (H.body.alloc (.cells #[.int .i64 x] 26)).drew
  have hh := (H.head.alloc (.cells #[.int .i64 x] 26)).drew
  have hsp : Hid ((w.alloc (.cells #[.int .i64 x] 26)).drew.there g k 1) := bb.there k 1 (by rw [row_length]; omega)
  have kk : Kept [g] (w.alloc (.cells #[.int .i64 x] 26)).drew ((w.alloc (.cells #[.int .i64 x] 26)).drew.setCells g k [.int .i64 x]) := Kept.setCells _ _ (Kept.refl _ _) (.inl (by simp))
  have h3 := kk.blk hh (by simpa using H.ne)
  have c5 := h3.cell 0 _ rfl
  have f5 := h3.free 0
  have hend : Hid (HeapAt (((w.alloc (.cells #[.int .i64 x] 26)).drew.setCells g k [.int .i64 x]).setCell ⟨hB, 0, none⟩ (.slice (some ⟨g, 0, none⟩) (k + 1) c)) hB g c (k + 1) (fun p => if p = k then x else f p) ∧
      Kept [hB, g] w (((w.alloc (.cells #[.int .i64 x] 26)).drew.setCells g k [.int .i64 x]).setCell ⟨hB, 0, none⟩ (.slice (some ⟨g, 0, none⟩) (k + 1) c))) := by
    refine ⟨⟨h3.set 0 _, ?_, H.ne, by omega, H.small⟩, ?_⟩
    · refine Blk.other ?_ (Ne.symm H.ne) _
      exact (bb.put k x _ (by simp) (fun p _ hp => by simp [hp]))
    · exact (Kept.setCells _ _ (((Kept.refl [hB, g] w).alloc _).drew) (.inl (by simp))).setCell (.inl (by simp)) _
  clear H hz0 hz2 bb hh kk h3 f2
  go_enter Yba.func67, Yba.ntmps67
  go_wp2_with fail
  go_region_law (refine step_append_room rfl (.tmp 7) (.tmp 10) 24 rfl 26 i0 1 Yba.underlying24 hi hz1 g 0 k c rfl ⟨w.heap.size, 0, none⟩ 1 1 [.int .i64 x] rfl rfl (by intro j u hj; match j, hj with | 0, hj => simp at hj; subst hj; simp [Addr.add]) (by simp [Value.oneCell']) (by omega) (by intro j hj; have := hsp.out j hj; simpa using this) ?_)
  all_goals
    go_end0
    exact ⟨rfl, hend.out⟩

theorem HeapAt.kept {w w' : World} {hB g c k : Nat} {f : Nat → Int} (H : HeapAt w hB g c k f) {S : List Nat} (hk : Kept S w w') (h1 : hB ∉ S) (h2 : g ∉ S) : HeapAt w' hB g c k f :=
  ⟨hk.blk H.head h1, hk.blk H.body h2, H.ne, H.le, H.small⟩

theorem less_heap (hB g c k i j : Nat) (f : Nat → Int) (w : World) (H : HeapAt w hB g c k f) (hi : i < k) (hj : j < k) :
    Calls Yba.prog 64 #[.slice (some ⟨g, 0, none⟩) k c, .int .i64 i, .int .i64 j] w fun e w' => e = .returned (.bool (decide (f i < f j))) ∧ HeapAt w' hB g c k f ∧ Kept [g] w w' := by
  have hle := H.le
  refine (less_any g k c i j (f i) (f j) w hi hj (H.body.at i (by omega)) (H.body.at j (by omega))).mono ?_
  rintro e w' ⟨rfl, hb⟩
  exact ⟨rfl, H.kept (Kept.of_below (S := []) hb) (by simp) (by simp), Kept.of_below hb⟩

set_option maxRecDepth 100000 in
set_option maxHeartbeats 1000000 in
theorem swap_one (g k c i : Nat) (x : Int) (w : World) (hi : i < k) (hx : w.cell? ⟨g, i, none⟩ = some (.int .i64 x)) (fx : w.frozen? ⟨g, i, none⟩ = false) :
    Calls Yba.prog 65 #[.slice (some ⟨g, 0, none⟩) k c, .int .i64 i, .int .i64 i] w fun e w' => e = .returned (.tuple #[]) ∧ w' = ((w.setCell ⟨g, i, none⟩ (.int .i64 x)).setCell ⟨g, i, none⟩ (.int .i64 x)).drew := by
  have t1 : (i : Int) < (k : Int) := by omega
  go_enter Yba.func65, Yba.ntmps65
  go_wp2_with fail
  go_region
  all_goals
    go_end0
    exact ⟨rfl, rfl⟩

theorem swap_heap (hB g c k i j : Nat) (f : Nat → Int) (w : World) (H : HeapAt w hB g c k f) (hi : i < k) (hj : j < k) :
    Calls Yba.prog 65 #[.slice (some ⟨g, 0, none⟩) k c, .int .i64 i, .int .i64 j] w fun e w' => e = .returned (.tuple #[]) ∧ HeapAt w' hB g c k (swp f i j) ∧ Kept [g] w w' := by
  have hle := H.le
  have ci := H.body.at i (by omega)
  have cj := H.body.at j (by omega)
  have kk : ∀ u v, Kept [g] w ((w.setCell ⟨g, i, none⟩ u).setCell ⟨g, j, none⟩ v).drew := fun u v => (((Kept.refl [g] w).setCell (.inl (by simp)) u).setCell (.inl (by simp)) v).drew
  by_cases hij : i = j
  · subst hij
    rw [swp_same]
    refine (swap_one g k c i (f i) w hi ci (H.body.free i)).mono ?_
    rintro e w' ⟨rfl, rfl⟩
    refine ⟨rfl, ⟨(kk _ _).blk H.head (by simpa using H.ne), ?_, H.ne, H.le, H.small⟩, kk _ _⟩
    exact ((H.body.put i (f i) f rfl (fun _ _ _ => rfl)).put i (f i) f rfl (fun _ _ _ => rfl)).drew
  · refine (swap_any g k c i j (f i) (f j) w hi hj hij ci cj (H.body.free i) (H.body.free j)).mono ?_
    rintro e w' ⟨rfl, rfl⟩
    refine ⟨rfl, ⟨(kk _ _).blk H.head (by simpa using H.ne), ?_, H.ne, H.le, H.small⟩, kk _ _⟩
    refine ((H.body.put i (f j) (fun p => if p = i then f j else f p) (by simp) (fun p _ hp => by simp [hp])).put j (f i) (swp f i j) (swp_r f i j) (fun p _ hp => ?_)).drew
    by_cases e : p = i
    · subst e; simp [swp]
    · simp [swp, e, hp]

set_option maxRecDepth 100000 in
set_option maxHeartbeats 1000000 in
theorem up_any (hB g c k j : Nat) (f : Nat → Int) (w : World) (H : HeapAt w hB g c k f) (hj : j < k) (U : UpInv f k j) :
    Calls Yba.prog 25 #[.iface 31 (.pointer (some ⟨hB, 0, none⟩)), .int .i64 j] w fun e w' => e = .returned (.tuple #[]) ∧ ∃ f', HeapAt w' hB g c k f' ∧ HeapOn f' k ∧ (els f' k).Perm (els f k) ∧ Kept [g] w w' := by
  have hle := H.le
  have hsm := H.small
  go_enter Yba.func25, Yba.ntmps25
  go_wp2_with fail
  go_loopw [1] (fun v wr => ∃ (t : Nat) (f' : Nat → Int), v = .int .i64 t ∧ t < k ∧ HeapAt wr hB g c k f' ∧ UpInv f' k t ∧ (els f' k).Perm (els f k) ∧ Kept [g] w wr) (fun v _ => (intOf v).toNat)
  case atStart => exact ⟨j, f, rfl, hj, H, U, List.Perm.refl _, Kept.refl _ _⟩
  case round =>
    clear H U
    obtain ⟨t, f', rfl, ht, H, U, hp, hk⟩ := hrel
    have HU : Hid (UpInv f' k t) := U
    have HH : Hid (HeapAt wr hB g c k f') := H
    have HP : Hid ((els f' k).Perm (els f k)) := hp
    have hm := m_less (H.head.cell 0 _ rfl)
    clear U H hp
    by_cases h0 : t = 0
    · subst h0
      clear hm
      go_wp2
      go_end0
      exact ⟨rfl, f', HH.out, HU.out.done (.inl rfl), HP.out, hk⟩
    · obtain ⟨i, hi⟩ : ∃ i, i = (t - 1) / 2 := ⟨_, rfl⟩
      have d1 : ((t : Int) - 1) / 2 = (i : Int) := by omega
      have d2 : ((i : Int) == (t : Int)) = false := by simp; omega
      have d3 : (0 : Int) ≤ (t : Int) - 1 := by omega
      have hik : i < k := by omega
      have HI : Hid (i = (t - 1) / 2) := hi
      clear hi
      go_wp2_with fail
      refine (less_heap hB g c k t i f' wr HH.out ht hik).mono ?_
      rintro e w1 ⟨rfl, H1, k1⟩
      have hm1 := m_swap (H1.head.cell 0 _ rfl)
      have HH1 : Hid (HeapAt w1 hB g c k f') := H1
      have hk1 := hk.trans k1
      clear hm H1 k1 hk HH
      by_cases hlt : f' t < f' i
      · go_wp2_with fail
        refine (swap_heap hB g c k i t f' w1 HH1.out hik ht).mono ?_
        rintro e w2 ⟨rfl, H2, k2⟩
        have HH2 : Hid (HeapAt w2 hB g c k (swp f' i t)) := H2
        have HU2 : Hid (UpInv (swp f' i t) k i) := HU.out.step (by omega) ht HI.out hlt
        have hk2 := hk1.trans k2
        clear hm1 H2 k2
        go_wp2
        go_roundw
        case rel => exact ⟨i, swp f' i t, by go_num, hik, HH2.out, HU2.out, (els_swp f' i t k hik ht).trans HP.out, hk2⟩
        case measure => have := HI.out; simp [intOf]; omega
      · have hd : decide (f' t < f' i) = false := decide_eq_false hlt
        go_wp2
        go_end0
        exact ⟨rfl, f', HH1.out, HU.out.done (.inr (by rw [← HI.out]; omega)), HP.out, hk1⟩

set_option maxRecDepth 100000 in
set_option maxHeartbeats 1000000 in
theorem down_any (hB g c k n : Nat) (f : Nat → Int) (w : World) (H : HeapAt w hB g c k f) (hn : n ≤ k) (D : DownInv f n 0) :
    Calls Yba.prog 28 #[.iface 31 (.pointer (some ⟨hB, 0, none⟩)), .int .i64 0, .int .i64 n] w fun e w' => (∃ b, e = .returned (.bool b)) ∧ ∃ f', HeapAt w' hB g c k f' ∧ HeapOn f' n ∧ (els f' n).Perm (els f n) ∧ (∀ p, n ≤ p → f' p = f p) ∧ Kept [g] w w' := by
  have hle := H.le
  have hsm := H.small
  go_enter Yba.func28, Yba.ntmps28
  go_wp2_with fail
  go_loopw [7] (fun v wr => ∃ (t : Nat) (f' : Nat → Int), v = .int .i64 t ∧ t ≤ n ∧ HeapAt wr hB g c k f' ∧ DownInv f' n t ∧ (els f' n).Perm (els f n) ∧ (∀ p, n ≤ p → f' p = f p) ∧ Kept [g] w wr) (fun v _ => n - (intOf v).toNat)
  case atStart => exact ⟨0, f, rfl, Nat.zero_le _, H, D, List.Perm.refl _, fun _ _ => rfl, Kept.refl _ _⟩
  case round =>
    clear H D
    obtain ⟨t, f', rfl, ht, H, D, hp, ho, hk⟩ := hrel
    have HD : Hid (DownInv f' n t) := D
    have HH : Hid (HeapAt wr hB g c k f') := H
    have HP : Hid ((els f' n).Perm (els f n)) := hp
    have HO : Hid (∀ p, n ≤ p → f' p = f p) := ho
    have hm := m_less (H.head.cell 0 _ rfl)
    clear D H hp ho
    by_cases h0 : n ≤ 2 * t + 1
    · clear hm
      have g0 : (n : Int) ≤ 2 * (t : Int) + 1 := by omega
      go_wp2
      go_ret
      exact ⟨⟨_, rfl⟩, f', HH.out, HD.out.leaf h0, HP.out, HO.out, hk⟩
    · obtain ⟨a, ha⟩ : ∃ a, a = 2 * t + 1 := ⟨_, rfl⟩
      have e1 : 2 * (t : Int) + 1 = (a : Int) := by omega
      have HA : Hid (a = 2 * t + 1) := ha
      have g1 : (a : Int) < (n : Int) := by omega
      have g1' : a < n := by omega
      have gt : t < n := by omega
      clear ha h0
      by_cases hb : a + 1 < n
      · obtain ⟨b, hb'⟩ : ∃ b, b = a + 1 := ⟨_, rfl⟩
        have e2 : (a : Int) + 1 = (b : Int) := by omega
        have HB : Hid (b = a + 1) := hb'
        have g2 : (b : Int) < (n : Int) := by omega
        have g2' : b < n := by omega
        clear hb' hb
        go_wp2_with fail
        refine (less_heap hB g c k b a f' wr HH.out (by omega) (by omega)).mono ?_
        rintro e w1 ⟨rfl, H1, k1⟩
        have hm1 := m_less (H1.head.cell 0 _ rfl)
        have HH1 : Hid (HeapAt w1 hB g c k f') := H1
        have hk1 := hk.trans k1
        clear hm H1 k1 hk HH
        by_cases hl1 : f' b < f' a
        · have hmin : Hid (∀ p, 0 < p → p < n → (p - 1) / 2 = t → f' b ≤ f' p) := fun p h1 h2 h3 => by
            have hA := HA.out
            have hB := HB.out
            rcases (show p = a ∨ p = b by omega) with rfl | rfl
            · omega
            · exact Int.le_refl _
          go_wp2_with fail
          refine (less_heap hB g c k b t f' w1 HH1.out (by omega) (by omega)).mono ?_
          rintro e w3 ⟨rfl, H3, k3⟩
          have hm3 := m_swap (H3.head.cell 0 _ rfl)
          have HH3 : Hid (HeapAt w3 hB g c k f') := H3
          have hk3 := hk1.trans k3
          clear hm1 H3 k3
          by_cases hlt : f' b < f' t
          · go_wp2_with fail
            refine (swap_heap hB g c k t b f' w3 HH3.out (by omega) (by omega)).mono ?_
            rintro e w4 ⟨rfl, H4, k4⟩
            have HH4 : Hid (HeapAt w4 hB g c k (swp f' t b)) := H4
            have HD4 : Hid (DownInv (swp f' t b) n b) := HD.out.step (by have := HA.out; have := HB.out; omega) (by omega) (by have := HA.out; have := HB.out; omega) hmin.out hlt
            have HO4 : Hid (∀ p, n ≤ p → swp f' t b p = f p) := fun p hp => by rw [swp_o f' t b p (by have := HA.out; have := HB.out; omega) (by omega)]; exact HO.out p hp
            have HP4 : Hid ((els (swp f' t b) n).Perm (els f n)) := (els_swp f' t b n (by have := HA.out; have := HB.out; omega) (by omega)).trans HP.out
            have hk4 := hk3.trans k4
            clear hm3 H4 k4
            go_wp2
            go_roundw
            case rel => exact ⟨b, swp f' t b, by go_num, by omega, HH4.out, HD4.out, HP4.out, HO4.out, hk4⟩
            case measure => have := HA.out; have := HB.out; simp [intOf]; omega
          · have hd : decide (f' b < f' t) = false := decide_eq_false hlt
            go_wp2
            go_ret
            exact ⟨⟨_, rfl⟩, f', HH3.out, HD.out.done hmin.out (by omega), HP.out, HO.out, hk3⟩
        · have hd1 : decide (f' b < f' a) = false := decide_eq_false hl1
          have hmin : Hid (∀ p, 0 < p → p < n → (p - 1) / 2 = t → f' a ≤ f' p) := fun p h1 h2 h3 => by
            have hA := HA.out
            have hB := HB.out
            rcases (show p = a ∨ p = b by omega) with rfl | rfl
            · exact Int.le_refl _
            · omega
          go_wp2_with fail
          refine (less_heap hB g c k a t f' w1 HH1.out (by omega) (by omega)).mono ?_
          rintro e w3 ⟨rfl, H3, k3⟩
          have hm3 := m_swap (H3.head.cell 0 _ rfl)
          have HH3 : Hid (HeapAt w3 hB g c k f') := H3
          have hk3 := hk1.trans k3
          clear hm1 H3 k3
          by_cases hlt : f' a < f' t
          · go_wp2_with fail
            refine (swap_heap hB g c k t a f' w3 HH3.out (by omega) (by omega)).mono ?_
            rintro e w4 ⟨rfl, H4, k4⟩
            have HH4 : Hid (HeapAt w4 hB g c k (swp f' t a)) := H4
            have HD4 : Hid (DownInv (swp f' t a) n a) := HD.out.step (by have := HA.out; omega) (by omega) (by have := HA.out; omega) hmin.out hlt
            have HO4 : Hid (∀ p, n ≤ p → swp f' t a p = f p) := fun p hp => by rw [swp_o f' t a p (by have := HA.out; omega) (by omega)]; exact HO.out p hp
            have HP4 : Hid ((els (swp f' t a) n).Perm (els f n)) := (els_swp f' t a n (by have := HA.out; omega) (by omega)).trans HP.out
            have hk4 := hk3.trans k4
            clear hm3 H4 k4
            go_wp2
            go_roundw
            case rel => exact ⟨a, swp f' t a, by go_num, by omega, HH4.out, HD4.out, HP4.out, HO4.out, hk4⟩
            case measure => have := HA.out; simp [intOf]; omega
          · have hd : decide (f' a < f' t) = false := decide_eq_false hlt
            go_wp2
            go_ret
            exact ⟨⟨_, rfl⟩, f', HH3.out, HD.out.done hmin.out (by omega), HP.out, HO.out, hk3⟩
      · have g2 : ¬ (a : Int) + 1 < (n : Int) := by omega
        have hd2 : decide ((a : Int) + 1 < (n : Int)) = false := decide_eq_false g2
        have hmin : Hid (∀ p, 0 < p → p < n → (p - 1) / 2 = t → f' a ≤ f' p) := fun p h1 h2 h3 => by
          have hA := HA.out
          obtain rfl : p = a := by omega
          exact Int.le_refl _
        go_wp2_with fail
        refine (less_heap hB g c k a t f' wr HH.out (by omega) (by omega)).mono ?_
        rintro e w3 ⟨rfl, H3, k3⟩
        have hm3 := m_swap (H3.head.cell 0 _ rfl)
        have HH3 : Hid (HeapAt w3 hB g c k f') := H3
        have hk3 := hk.trans k3
        clear hm H3 k3
        by_cases hlt : f' a < f' t
        · go_wp2_with fail
          refine (swap_heap hB g c k t a f' w3 HH3.out (by omega) (by omega)).mono ?_
          rintro e w4 ⟨rfl, H4, k4⟩
          have HH4 : Hid (HeapAt w4 hB g c k (swp f' t a)) := H4
          have HD4 : Hid (DownInv (swp f' t a) n a) := HD.out.step (by have := HA.out; omega) (by omega) (by have := HA.out; omega) hmin.out hlt
          have HO4 : Hid (∀ p, n ≤ p → swp f' t a p = f p) := fun p hp => by rw [swp_o f' t a p (by have := HA.out; omega) (by omega)]; exact HO.out p hp
          have HP4 : Hid ((els (swp f' t a) n).Perm (els f n)) := (els_swp f' t a n (by have := HA.out; omega) (by omega)).trans HP.out
          have hk4 := hk3.trans k4
          clear hm3 H4 k4
          go_wp2
          go_roundw
          case rel => exact ⟨a, swp f' t a, by go_num, by omega, HH4.out, HD4.out, HP4.out, HO4.out, hk4⟩
          case measure => have := HA.out; simp [intOf]; omega
        · have hd : decide (f' a < f' t) = false := decide_eq_false hlt
          go_wp2
          go_ret
          exact ⟨⟨_, rfl⟩, f', HH3.out, HD.out.done hmin.out (by omega), HP.out, HO.out, hk3⟩
end Go.Proofs.Ybulkchpk
