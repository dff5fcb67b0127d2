/-
  LawS4183BJobs: the walk.
-/
import Derived.Test.YbulkchpkJobs
import Derived.Test.YbulkchpkOkG
namespace Go.Proofs.Ybulkchpk
open Go.ChangeShapes Go.WideShapes Go.ChangeAt Go.RowKit

/-- A slice of m records at the address a reads R. -/
def ReadsR (w : World) (a : Option Addr) (m : Nat) (R : Nat → Rec) : Prop :=
  m = 0 ∨ ∃ b off, a = some ⟨b, off, none⟩ ∧ b < w.heap.size ∧ (∀ j, j < m → w.rangeAt b (off + j * 8) (R j).inA.toList) ∧ ∀ j, j < m → (R j).i6 ≤ 9223372036854775807
theorem rangeAt_below {B : Nat} {w w' : World} {b o : Nat} {cs : List Value} (h : w.rangeAt b o cs) (hb : Below B w w') (hB : b < B) : w'.rangeAt b o cs := fun j v hv => (hb.cell (p := ⟨b, o + j, none⟩) hB).trans (h j v hv)
theorem rangeAt_kept {S : List Nat} {w w' : World} {b o : Nat} {cs : List Value} (h : w.rangeAt b o cs) (hk : Kept S w w') (hB : b < w.heap.size) (hS : b ∉ S) : w'.rangeAt b o cs := fun j v hv => (hk.cell (p := ⟨b, o + j, none⟩) hB hS).trans (h j v hv)
theorem ReadsR.below {B : Nat} {w w' : World} {a : Option Addr} {m : Nat} {R : Nat → Rec} (h : ReadsR w a m R) (hb : Below B w w') (hB : w.heap.size ≤ B) : ReadsR w' a m R := by
  rcases h with h | ⟨b, off, rfl, hlt, hc, hz⟩
  · exact .inl h
  · exact .inr ⟨b, off, rfl, by have := hb.size; omega, fun j hj => rangeAt_below (hc j hj) hb (by omega), hz⟩
theorem ReadsR.get {w : World} {a : Option Addr} {m : Nat} {R : Nat → Rec} (h : ReadsR w a m R) {t : Nat} (ht : t < m) :
    ∃ b off, a = some ⟨b, off, none⟩ ∧ b < w.heap.size ∧ (∀ j, j < m → w.rangeAt b (off + j * 8) (R j).inA.toList) ∧ ∀ j, j < m → (R j).i6 ≤ 9223372036854775807 := by
  rcases h with h | h
  · omega
  · exact h

/-- The rows of 18 cells, of which the first t hold records. -/
def Rows18 (R : Nat → Rec) (n m t : Nat) (cs : List Value) : Prop := cs.length = m * 18 ∧ ∀ j, j < t → (cs.drop (j * 18)).take 18 = ((R j).recA n).toList
theorem Rows18.step {R : Nat → Rec} {n m t : Nat} {cs : List Value} (h : Rows18 R n m t cs) (ht : t < m) : Rows18 R n m (t + 1) (over cs (t * 18) ((R t).recA n).toList) := by
  obtain ⟨h1, h2⟩ := h
  have hl : ((R t).recA n).toList.length = 18 := rfl
  refine ⟨?_, ?_⟩
  · unfold over
    simp only [List.length_append, List.length_take, List.length_drop, hl]
    omega
  · intro j hj
    unfold over
    have e1 : (cs.take (t * 18)).length = t * 18 := by simp; omega
    by_cases e : j = t
    · subst e
      rw [List.append_assoc, List.drop_left' e1, List.take_left' hl]
    · have hlt : j < t := by omega
      rw [← h2 j hlt, List.append_assoc, List.drop_append_of_le_length (by rw [e1]; omega), List.take_append_of_le_length (by rw [List.length_drop, e1]; omega)]
      refine List.ext_getElem? fun i => ?_
      simp only [List.getElem?_take, List.getElem?_drop]
      split
      · rw [if_pos (by omega)]
      · rfl

theorem grew_below (w : World) (n : Nat) (os : Array Obj) : Below w.heap.size w (Sort.grow (w.drewN n) os) :=
  ⟨rfl, rfl, rfl, by simp [Sort.grow, World.drewN], fun k hk => by
    show (w.heap ++ os)[k]? = _
    rw [Array.getElem?_append_left hk]⟩
theorem load_grown {w : World} {b o : Nat} {ty : TypeId} {cs : List Value} {d : TypeDesc} (hc : w.rangeAt b o cs) (hb : b < w.heap.size) (hu : Yba.prog.underlying ty = some d) (hd : d.isRow = true) (hi : (Yba.prog.info? ty).map (·.size) = some cs.length) (n : Nat) (os : Array Obj) :
    (Instr.loadAt ty (.pointer (some ⟨b, o, none⟩))).run Yba.prog (Sort.grow (w.drewN n) os) = .ok (.agg cs.toArray) (Sort.grow (w.drewN n) os) :=
  run_loadAt_mid _ b o ty cs d (rangeAt_below hc (grew_below w n os) hb) hu hd hi
theorem Yba.mixed : Yba.prog.follows .mixedOrders = true := by kernel_rfl

theorem Yba.info50 : (Yba.prog.info? 50).map (fun i => (i.zero, i.size, i.bytes)) = some (some (.agg (recV ⟨#[]⟩ ⟨#[]⟩ ⟨#[]⟩ 0 0 0 0 false)), 18, 184) := by kernel_rfl

set_option maxRecDepth 100000 in
set_option maxHeartbeats 2000000 in
theorem jobslaw (a : Option Addr) (m c : Nat) (a' : Option Addr) (n c' : Nat) (R : Nat → Rec) (ns : Nat → ByteArray) (w : World) (hm : m ≤ 1024) (hn : n ≤ 1024) (hR : ReadsR w a m R) (hN : ReadsS w a' n ns) :
    Calls Yba.prog 6 #[.slice a m c, .slice a' n c'] w fun e w' => e = .returned (.bool true) ∧ Below w.heap.size w w' := by
  obtain ⟨i0, hi, hz0, hz1, hz2⟩ := info_parts Yba.info50
  have hbytes : Hid (i0.bytes * m ≤ 281474976710656) := by unfold Hid; simp only [hz2]; omega
  have hmax : Hid (m ≤ maxLen) := by unfold Hid maxLen; omega
  clear hz2
  go_enter Yba.func6, Yba.ntmps6
  go_wp2_with fail
  refine (sched_any a' n c' ns _ hn hN).mono ?_
  rintro e w1 ⟨Sb, L, C, N, rfl, S⟩
  go_wp2_with (at_make; refine wpList_make_full _ rfl _ _ 60 rfl w1.heap.size 50 i0 _ 18 Yba.underlying60 hi hz0 hz1 .i64 .i64 _ _ m rfl rfl rfl rfl hbytes.out hmax.out (Nat.le_refl _) ?_; intro w2 hown hgr)
  obtain ⟨cs0, hB0, hlen0⟩ : ∃ cs, Blk w2 w1.heap.size 50 cs ∧ cs.length = m * 18 := ⟨_, Blk.of_owns hown, hown.1⟩
  have l2 : Below w1.heap.size w1 w2 := (Below.refl _ _).grown hgr (Nat.le_refl _) (by simp)
  have p1 := S.bel.size
  have m2 : Below w.heap.size w w2 := S.bel.trans (l2.mono p1)
  have p2 := m2.size
  have p3 := hB0.lt
  clear hown hgr hi hz0 hz1 hbytes hmax
  go_loopw [6, 27] (fun gv i wr => ∃ t : Nat, t ≤ m ∧ i = .int .i64 t ∧ gv = .int .i64 ((t : Int) - ((keptTo R t).length : Int)) ∧ Kept [w1.heap.size] w2 wr ∧ ∃ cs, Blk wr w1.heap.size 50 cs ∧ Rows18 R n m t cs) (fun _ i _ => m - (intOf i).toNat)
  case atStart => exact ⟨0, Nat.zero_le _, rfl, rfl, Kept.refl _ _, cs0, hB0, hlen0, fun j hj => by omega⟩
  case round =>
    clear hB0 hlen0
    obtain ⟨t, ht, rfl, rfl, hk, cs, hb, hcs⟩ := hrel
    have mr := hk.below m2 p2 (by simp; omega)
    by_cases hlt : t < m
    · obtain ⟨b, off, rfl, hbl, hc, hz⟩ := hR.get hlt
      have kl := keptTo_le R t
      have q1 := rangeAt_below (hc t hlt) mr hbl
      have hi6 := hz t hlt
      have HS : Hid (Sched w w1 Sb L C N n ns) := S
      have HC : Hid (∀ j, j < m → w.rangeAt b (off + j * 8) (R j).inA.toList) := hc
      clear S hc hz hR hN
      have t1 : (t : Int) < (m : Int) := by omega
      go_wp2_with (refine wpl_load 38 34 b (off + t * 8) (R t).inA.toList rfl _ q1 Yba.underlying38 rfl Yba.size38 ?_)
      refine (record_any (R t).s0 (R t).s1 (R t).s2 (R t).i3 (R t).f4 (R t).i5 (R t).i6 (R t).b7 n hn hi6 _).mono ?_
      rintro e w3 ⟨rfl, l3⟩
      have hb3 := hb.below l3 hb.lt
      have hk3 : Kept [w1.heap.size] w2 w3 := hk.trans (Kept.of_below l3)
      have hth := hb3.there (t * 18) 18 (by have := hcs.1; omega)
      have y3 := hb3.setCells ((R t).recA n).toList (t * 18) (by have := hcs.1; have h18 : ((R t).recA n).toList.length = 18 := rfl; omega)
      have hk4 := Kept.setCells ((R t).recA n).toList (t * 18) hk3 (g := w1.heap.size) (.inl (by simp))
      have hcs' := hcs.step hlt
      have HT : Hid (w3.there w1.heap.size (t * 18) 18) := hth
      have HY : Hid (Blk (w3.setCells w1.heap.size (t * 18) ((R t).recA n).toList) w1.heap.size 50 (over cs (t * 18) ((R t).recA n).toList)) := y3
      have HK : Hid (Kept [w1.heap.size] w2 (w3.setCells w1.heap.size (t * 18) ((R t).recA n).toList)) := hk4
      have HW : Hid (Rows18 R n m (t + 1) (over cs (t * 18) ((R t).recA n).toList)) := hcs'
      clear hb hk hcs q1 hth y3 hk4 hcs' hb3 hk3
      rcases Bool.eq_false_or_eq_true (R t).b7 with hb7 | hb7
      · have e1 := keptTo_gone R t hb7
        have HE : Hid (keptTo R (t + 1) = keptTo R t) := e1
        have HB : Hid ((R t).b7 = true) := hb7
        clear hb7 e1
        have g1 : 0 ≤ (t : Int) - ((keptTo R t).length : Int) := by omega
        have g2 : (t : Int) - ((keptTo R t).length : Int) ≤ 1024 := by omega
        go_wp2_with ((with_reducible refine wpl_store 50 39 38 w1.heap.size (t * 18) ((R t).recA n) ?_ ?_ ?_ ?_ ?_ ?_); exact rfl; exact rfl; exact HT.out; exact Yba.size50; exact recV_one _ _ _ _ _ _ _ _; clear HT; generalize w3.setCells w1.heap.size (t * 18) ((R t).recA n).toList = w4 at HY HK ⊢; have c7 : w4.cell? ⟨b, off + t * 8 + 7, none⟩ = some (.bool true) := ((HK.out.below m2 p2 (by simp; omega)).cell (p := ⟨b, off + t * 8 + 7, none⟩) hbl).trans ((HC.out t hlt 7 _ rfl).trans (by rw [HB.out])))
        go_roundw
        case rel => exact ⟨t + 1, by omega, by go_num, by rw [HE.out]; go_num, HK.out, _, HY.out, HW.out⟩
        case measure => simp [intOf]; omega
      · have e1 := keptTo_stay R t hb7
        have HE : Hid (keptTo R (t + 1) = keptTo R t ++ [t]) := e1
        have HB : Hid ((R t).b7 = false) := hb7
        clear hb7 e1
        go_wp2_with ((with_reducible refine wpl_store 50 39 38 w1.heap.size (t * 18) ((R t).recA n) ?_ ?_ ?_ ?_ ?_ ?_); exact rfl; exact rfl; exact HT.out; exact Yba.size50; exact recV_one _ _ _ _ _ _ _ _; clear HT; generalize w3.setCells w1.heap.size (t * 18) ((R t).recA n).toList = w4 at HY HK ⊢; have c7 : w4.cell? ⟨b, off + t * 8 + 7, none⟩ = some (.bool false) := ((HK.out.below m2 p2 (by simp; omega)).cell (p := ⟨b, off + t * 8 + 7, none⟩) hbl).trans ((HC.out t hlt 7 _ rfl).trans (by rw [HB.out])))
        go_roundw
        case rel => exact ⟨t + 1, by omega, by go_num, by rw [HE.out]; simp; omega, HK.out, _, HY.out, HW.out⟩
        case measure => simp [intOf]; omega
    · obtain rfl : t = m := by omega
      have kl := keptTo_le R t
      have bS := hk.blk (S.k0.below l2 S.k0.lt) (by have := S.k0.lt; simp; omega)
      have c5 := bS.cell 5 _ rfl
      have c6 := bS.cell 6 _ rfl
      have f5 := bS.free 5
      have f6 := bS.free 6
      have x2 := block_lt_of_cell (a := ⟨L, 0, none⟩) S.k2
      have x3 := block_lt_of_cell (a := ⟨C, 1, none⟩) S.k3
      have x0 := S.k0.lt
      simp only at x2 x3
      have HS : Hid (Sched w w1 Sb L C N n ns) := S
      have HB : Hid (Blk wr Sb 71 (schedV L).toList) := bS
      have HR : Hid (Blk wr w1.heap.size 50 cs ∧ Rows18 R n t t cs) := ⟨hb, hcs⟩
      have HK : Hid (Kept [w1.heap.size] w2 wr) := hk
      have HM : Hid (Below w.heap.size w wr) := mr
      have HA : Hid (ReadsR w a t R) := hR
      have HN : Hid (ReadsS w a' n ns) := hN
      clear S bS hb hcs hk mr hR hN
      go_wp2_with fail
      generalize hW : (wr.setCell ⟨Sb, 5, none⟩ (Value.slice (some ⟨w1.heap.size, 0, none⟩) t t)).setCell ⟨Sb, 6, none⟩ (Value.int .i64 ((t : Int) - ((keptTo R t).length : Int))) = w5
      have kS : Kept [Sb] wr w5 := by rw [← hW]; exact ((Kept.refl _ _).setCell (.inl (by simp)) _).setCell (.inl (by simp)) _
      have bS5 := ((HB.out.set 5 (Value.slice (some ⟨w1.heap.size, 0, none⟩) t t)).set 6 (Value.int .i64 ((t : Int) - ((keptTo R t).length : Int))))
      rw [hW] at bS5
      clear hW c5 c6 f5 f6
      have o0 := HS.out.o0
      have o1 := HS.out.o1
      have o2 := HS.out.o2
      have o3 := HS.out.o3
      have old : ∀ {b o : Nat} {v : Value}, b < w1.heap.size → b ≠ Sb → w1.cell? ⟨b, o, none⟩ = some v → w5.cell? ⟨b, o, none⟩ = some v := fun {b o v} hlt hne e => by
        rw [kS.cell (p := ⟨b, o, none⟩) (by have := HK.out.size; show b < wr.heap.size; omega) (by simpa using hne), HK.out.cell (p := ⟨b, o, none⟩) (by show b < w2.heap.size; omega) (by simp; omega), l2.cell (p := ⟨b, o, none⟩) hlt]
        exact e
      have bR5 := kS.blk HR.out.1 (by simp; omega)
      have F5 : Full w5 Sb L C N w1.heap.size n t ns R ((t : Int) - ((keptTo R t).length : Int)) :=
        { k1 := bS5.cell 0 _ rfl, k2 := old (by omega) (by omega) HS.out.k2, k3 := old (by omega) (by omega) HS.out.k3, k4 := fun j hj => old (by omega) (by omega) (HS.out.k4 j hj), k5 := bS5.cell 5 _ rfl, k6 := bS5.cell 6 _ rfl
          recs := fun j hj => by rw [← HR.out.2.2 j hj]; exact bR5.range (j * 18) 18 }
      have m5 : Below w.heap.size w w5 := kS.below HM.out HM.out.size (by simp; omega)
      refine (jobs_any Sb L C N w1.heap.size n t (keptTo R t).length ns R _ _ hm rfl (by omega) (by omega) (by omega) F5).mono ?_
      rintro e w6 ⟨Lb, rfl, hLb, b6, l6⟩
      have m6 := m5.trans (l6.mono m5.size)
      have HB6 : Hid (Blk w6 Lb 53 (statsOf R n ns (keptTo R t))) := b6
      have HM6 : Hid (Below w.heap.size w w6) := m6
      clear old bR5 F5 m5 bS5 kS b6 l6 m6 HR HK HM HB HS
      go_wp2_with fail
      go_loopw [10, 60] (fun kv i wr => ∃ u : Nat, u ≤ t ∧ i = .int .i64 u ∧ kv = .int .i64 ((keptTo R u).length : Int) ∧ Below w6.heap.size w6 wr) (fun _ i _ => t - (intOf i).toNat)
      case atStart => exact ⟨0, Nat.zero_le _, rfl, rfl, Below.refl _ _⟩
      case round =>
        obtain ⟨u, hu, rfl, rfl, hw⟩ := hrel
        have mr := HM6.out.trans (hw.mono HM6.out.size)
        by_cases hlu : u < t
        · obtain ⟨b, off, rfl, hbl, hc, hz⟩ := HA.out.get hlu
          have q1 := rangeAt_below (hc u hlu) mr hbl
          have hi6 := hz u hlu
          have t1 : (u : Int) < (t : Int) := by omega
          have hbr : b < wr.heap.size := by have := mr.size; omega
          clear hc hz
          rcases Bool.eq_false_or_eq_true (R u).b7 with hb7 | hb7
          · have e1 := keptTo_gone R u hb7
            have c7 : wr.cell? ⟨b, off + u * 8 + 7, none⟩ = some (.bool true) := (q1 7 _ rfl).trans (by rw [hb7])
            have HE : Hid (keptTo R (u + 1) = keptTo R u) := e1
            clear hb7 e1 q1
            go_wp2
            go_roundw
            case rel => exact ⟨u + 1, by omega, by go_num, by rw [HE.out], hw⟩
            case measure => simp [intOf]; omega
          · have e1 := keptTo_stay R u hb7
            have c7 : wr.cell? ⟨b, off + u * 8 + 7, none⟩ = some (.bool false) := (q1 7 _ rfl).trans (by rw [hb7])
            have e2 := keptTo_at R u t hlu hb7
            have hql := (List.getElem?_eq_some_iff.1 e2).1
            have hrg : w6.rangeAt Lb ((keptTo R u).length * 7) ((R u).statA n ns).toList := by
              rw [← statsOf_at R n ns (keptTo R t) (keptTo R u).length u e2]
              exact HB6.out.range _ _
            have q2 := rangeAt_below hrg hw HB6.out.lt
            have HE : Hid (keptTo R (u + 1) = keptTo R u ++ [u]) := e1
            have kl' := keptTo_le R u
            have g1 : ((keptTo R u).length : Int) < ((keptTo R t).length : Int) := by omega
            have hd : decide (((keptTo R t).length : Int) ≤ ((keptTo R u).length : Int)) = false := decide_eq_false (by omega)
            have hd' : decide ((keptTo R t).length ≤ (keptTo R u).length) = false := decide_eq_false (by omega)
            have gL := grew_below wr
            have hLr : Lb < wr.heap.size := by have := HB6.out.lt; have := hw.size; omega
            have x0 : ∀ q os, (Sort.grow (wr.drewN q) os).cell? ⟨Lb, (keptTo R u).length * 7, none⟩ = some (.string (R u).s0) := fun q os => rangeAt_below q2 (gL q os) hLr 0 _ rfl
            have x1 : ∀ q os, (Sort.grow (wr.drewN q) os).cell? ⟨Lb, (keptTo R u).length * 7 + 1, none⟩ = some (.string (R u).s1) := fun q os => rangeAt_below q2 (gL q os) hLr 1 _ rfl
            have x2 : ∀ q os, (Sort.grow (wr.drewN q) os).cell? ⟨Lb, (keptTo R u).length * 7 + 2, none⟩ = some (.int .i64 (R u).i3) := fun q os => rangeAt_below q2 (gL q os) hLr 2 _ rfl
            have x3 : ∀ q os, (Sort.grow (wr.drewN q) os).cell? ⟨Lb, (keptTo R u).length * 7 + 3, none⟩ = some (.string (nodeName ns n (R u).i6)) := fun q os => rangeAt_below q2 (gL q os) hLr 3 _ rfl
            have x4 : ∀ q os, (Sort.grow (wr.drewN q) os).cell? ⟨Lb, (keptTo R u).length * 7 + 4, none⟩ = some (.string (R u).s2) := fun q os => rangeAt_below q2 (gL q os) hLr 4 _ rfl
            have x5 : ∀ q os, (Sort.grow (wr.drewN q) os).cell? ⟨Lb, (keptTo R u).length * 7 + 5, none⟩ = some (.float .f64 (R u).f4) := fun q os => rangeAt_below q2 (gL q os) hLr 5 _ rfl
            have x6 : ∀ q os, (Sort.grow (wr.drewN q) os).cell? ⟨Lb, (keptTo R u).length * 7 + 6, none⟩ = some (.int .i64 (R u).i5) := fun q os => rangeAt_below q2 (gL q os) hLr 6 _ rfl
            have y0 : ∀ q os, (Sort.grow (wr.drewN q) os).cell? ⟨b, off + u * 8, none⟩ = some (.string (R u).s0) := fun q os => rangeAt_below q1 (gL q os) hbr 0 _ rfl
            have y1 : ∀ q os, (Sort.grow (wr.drewN q) os).cell? ⟨b, off + u * 8 + 1, none⟩ = some (.string (R u).s1) := fun q os => rangeAt_below q1 (gL q os) hbr 1 _ rfl
            have y2 : ∀ q os, (Sort.grow (wr.drewN q) os).cell? ⟨b, off + u * 8 + 2, none⟩ = some (.string (R u).s2) := fun q os => rangeAt_below q1 (gL q os) hbr 2 _ rfl
            have y3 : ∀ q os, (Sort.grow (wr.drewN q) os).cell? ⟨b, off + u * 8 + 3, none⟩ = some (.int .i64 (R u).i3) := fun q os => rangeAt_below q1 (gL q os) hbr 3 _ rfl
            have y4 : ∀ q os, (Sort.grow (wr.drewN q) os).cell? ⟨b, off + u * 8 + 4, none⟩ = some (.float .f64 (R u).f4) := fun q os => rangeAt_below q1 (gL q os) hbr 4 _ rfl
            have y5 : ∀ q os, (Sort.grow (wr.drewN q) os).cell? ⟨b, off + u * 8 + 5, none⟩ = some (.int .i64 (R u).i5) := fun q os => rangeAt_below q1 (gL q os) hbr 5 _ rfl
            have y6 : ∀ q os, (Sort.grow (wr.drewN q) os).cell? ⟨b, off + u * 8 + 6, none⟩ = some (.int .i64 (R u).i6) := fun q os => rangeAt_below q1 (gL q os) hbr 6 _ rfl
            have y7 : ∀ q os, (Sort.grow (wr.drewN q) os).cell? ⟨b, off + u * 8 + 7, none⟩ = some (.bool (R u).b7) := fun q os => rangeAt_below q1 (gL q os) hbr 7 _ rfl
            have HX : Hid (ReadsS wr a' n ns) := HN.out.below mr (Nat.le_refl _)
            clear hb7 e1 e2 hrg q1 q2 gL
            go_wp2_with fail
            refine wp_region_quiet_grown Yba.mixed (by kernel_rfl) ?_
            repeat (first
              | go_big_quiet_step ((go_at_call 19; exact Calls.grown_of (okg_all (R u) a' n c' ns _ hn hi6 (HX.out.below (grew_below _ _ _) (Nat.le_refl _)))))
              | quiet_step ((go_at_call 19; exact Calls.grown_of (okg_all (R u) a' n c' ns _ hn hi6 (HX.out.below (grew_below _ _ _) (Nat.le_refl _))))))
            refine wpQuiet_nil ?_
            intro _ hw'
            obtain ⟨⟨nq, osq⟩, hw''⟩ := hw'
            subst hw''
            have lg := grew_below wr nq osq
            have hsz := hw.size
            have hw2 := hw.trans (lg.mono hsz)
            clear lg x0 x1 x2 x3 x4 x5 x6 y0 y1 y2 y3 y4 y5 y6 y7
            generalize Sort.grow (wr.drewN nq) osq = w8 at hw2 ⊢
            go_wp2
            go_roundw
            case rel => exact ⟨u + 1, by omega, by go_num, by rw [HE.out]; simp, hw2⟩
            case measure => simp [intOf]; omega
        · obtain rfl : u = t := by omega
          go_wp2
          go_ret
          exact ⟨by simp, mr⟩
end Go.Proofs.Ybulkchpk
