/-
  (*Scheduler).Jobs by its contract.
-/
import Derived.Test.YbulkchpkRecs
import Derived.Laws.MakeOwn
namespace Go.Proofs.Ybulkchpk
open Go.ChangeShapes Go.WideShapes Go.ChangeAt Go.RowKit

theorem Yba.info53 : (Yba.prog.info? 53).map (fun i => (i.zero, i.size, i.bytes)) = some (some (.agg (statV ⟨#[]⟩ ⟨#[]⟩ ⟨#[]⟩ 0 0 0 ⟨#[]⟩)), 7, 88) := by kernel_rfl

/-- The scheduler as Jobs reads it. -/
structure Full (w : World) (Sb L C N Rb n m : Nat) (ns : Nat → ByteArray) (R : Nat → Rec) (gone : Int) : Prop where
  k1 : w.cell? ⟨Sb, 0, none⟩ = some (.pointer (some ⟨L, 0, none⟩))
  k2 : w.cell? ⟨L, 0, none⟩ = some (.pointer (some ⟨C, 0, none⟩))
  k3 : w.cell? ⟨C, 1, none⟩ = some (.slice (some ⟨N, 0, none⟩) n n)
  k4 : ∀ j, j < n → w.cell? ⟨N, j * 6, none⟩ = some (.string (pre (ns j)))
  k5 : w.cell? ⟨Sb, 5, none⟩ = some (.slice (some ⟨Rb, 0, none⟩) m m)
  k6 : w.cell? ⟨Sb, 6, none⟩ = some (.int .i64 gone)
  recs : ∀ j, j < m → w.rangeAt Rb (j * 18) ((R j).recA n).toList

theorem Full.below {w w' : World} {Sb L C N Rb n m : Nat} {ns : Nat → ByteArray} {R : Nat → Rec} {gone : Int} (h : Full w Sb L C N Rb n m ns R gone) (hb : Below w.heap.size w w') : Full w' Sb L C N Rb n m ns R gone := by
  have c : ∀ {b o : Nat} {v : Value}, w.cell? ⟨b, o, none⟩ = some v → w'.cell? ⟨b, o, none⟩ = some v := fun {b o v} e => (hb.cell (p := ⟨b, o, none⟩) (block_lt_of_cell (a := ⟨b, o, none⟩) e)).trans e
  exact ⟨c h.k1, c h.k2, c h.k3, fun j hj => c (h.k4 j hj), c h.k5, c h.k6, fun j hj i v hv => c (h.recs j hj i v hv)⟩

theorem grown_of_below {w w' : World} (h : Below w.heap.size w w') : w.grownBy w' none := ⟨h.os, h.tape, h.output, h.size, fun k hk _ => h.block k hk⟩

set_option maxRecDepth 100000 in
set_option maxHeartbeats 1000000 in
theorem jobs_any (Sb L C N Rb n m q : Nat) (ns : Nat → ByteArray) (R : Nat → Rec) (gone : Int) (w : World) (hm : m ≤ 1024) (hq : (keptTo R m).length = q) (hg : (m : Int) - gone = (q : Int)) (g0 : 0 ≤ gone) (g1 : gone ≤ 1024)
    (F : Full w Sb L C N Rb n m ns R gone) :
    Calls Yba.prog 20 #[.pointer (some ⟨Sb, 0, none⟩)] w fun e w' => ∃ Lb, e = .returned (.slice (some ⟨Lb, 0, none⟩) q q) ∧ w.heap.size ≤ Lb ∧ Blk w' Lb 53 (statsOf R n ns (keptTo R m)) ∧ Below w.heap.size w w' := by
  obtain ⟨i0, hi, hz0, hz1, hz2⟩ := info_parts Yba.info53
  have hqm : q ≤ m := by rw [← hq]; exact keptTo_le R m
  obtain ⟨cur, hcur, hmk⟩ : ∃ cur : Array Value, cur.size = q * 7 ∧ ∀ W : World, (Instr.makeSlice 72 (.int .i64 0) (.int .i64 (q : Int))).run Yba.prog W = .ok (.slice (some ⟨W.heap.size, 0, none⟩) 0 q) (W.alloc (.cells cur 53)) := by
    refine ⟨madeCells (Value.agg (statV ⟨#[]⟩ ⟨#[]⟩ ⟨#[]⟩ 0 0 0 ⟨#[]⟩)).cells (q * 7), ?_, fun W => ?_⟩
    · simp [madeCells]
    · have := run_make (P := Yba.prog) W 72 53 i0 _ Yba.underlying72 hi hz0 .i64 .i64 0 (q : Int) (by omega) (by omega) (by rw [hz2]; omega) (by omega)
      simpa [hz1] using this
  have k5 := F.k5
  have k6 := F.k6
  have lS := block_lt_of_cell (a := ⟨Sb, 5, none⟩) k5
  simp only at lS
  have HQ : Hid ((keptTo R m).length = q) := hq
  clear hq hz2 hz0
  go_enter Yba.func20, Yba.ntmps20
  go_wp2_with fail
  go_region
  have hown : ((w.alloc (.cells cur 53)).drew).ownsRow w.heap.size 53 7 (.slice (some ⟨w.heap.size, 0, none⟩) 0 q) 0 [] := (World.ownsRow_made w cur q (Nat.le_refl _) (by unfold maxLen; omega) hcur).drew
  clear hmk k6 g0 g1 hg hcur
  go_wp2_with fail
  clear k5
  go_loopw [3, 21] (fun v i wr => ∃ t : Nat, t ≤ m ∧ i = .int .i64 t ∧ v = .slice (some ⟨w.heap.size, 0, none⟩) (keptTo R t).length q ∧ wr.ownsRow w.heap.size 53 7 (.slice (some ⟨w.heap.size, 0, none⟩) (keptTo R t).length q) (keptTo R t).length (statsOf R n ns (keptTo R t)) ∧ Below w.heap.size w wr) (fun _ i _ => m - (intOf i).toNat)
  case atStart => exact ⟨0, Nat.zero_le _, rfl, rfl, hown, ((Below.refl _ _).alloc (Nat.le_refl _) _).drew⟩
  case round =>
    clear hown
    obtain ⟨t, ht, rfl, rfl, ho, hw⟩ := hrel
    have HO : Hid (wr.ownsRow w.heap.size 53 7 (.slice (some ⟨w.heap.size, 0, none⟩) (keptTo R t).length q) (keptTo R t).length (statsOf R n ns (keptTo R t))) := ho
    clear ho
    have F1 := F.below hw
    by_cases hlt : t < m
    · have k5 := F1.k5
      have k7 : wr.cell? ⟨Rb, t * 18 + 17, none⟩ = some (.bool (R t).b7) := F1.recs t hlt 17 _ rfl
      have HF : Hid (Full wr Sb L C N Rb n m ns R gone) := F1
      have HG : Hid (Full w Sb L C N Rb n m ns R gone) := F
      clear F F1
      cases hb : (R t).b7 with
      | true =>
        have e1 := keptTo_gone R t hb
        rw [hb] at k7
        clear hb
        go_wp2
        go_roundw
        case rel => exact ⟨t + 1, by omega, by go_num, by rw [e1], by rw [e1]; exact HO.out, hw⟩
        case measure => simp [intOf]; omega
      | false =>
        have e1 := keptTo_stay R t hb
        have hle : (keptTo R (t + 1)).length ≤ q := by rw [← HQ.out]; exact keptTo_mono R (t + 1) m (by omega)
        rw [hb] at k7
        clear hb
        go_wp2_with fail
        refine (status_all Sb L C N n Rb (t * 18) ns (R t) wr (HF.out.recs t hlt) HF.out.k1 HF.out.k2 HF.out.k3 HF.out.k4).mono ?_
        rintro e w1 ⟨rfl, l1⟩
        have o1 := (HO.out.kept (grown_of_below l1) (.inr (by simp [Value.ownBlock]))).alloc (.cells ((R t).statA n ns) 53)
        have b1 := Blk.newA w1 ((R t).statA n ns) 53
        have hcl : Hid (∀ j u, ((R t).statA n ns).toList[j]? = some u → (w1.alloc (.cells ((R t).statA n ns) 53)).cell? ((⟨w1.heap.size, 0, none⟩ : Addr).add j) = some u) := fun j u hu => by rw [Addr.add_mid, Nat.zero_add]; exact b1.cell j u hu
        have hone : Hid (∀ u ∈ ((R t).statA n ns).toList, u.oneCell' = true) := by unfold Hid; simp [Value.oneCell']
        have hsz := hw.size
        have hsz1 := l1.size
        clear k5 k7
        go_wp2_with (at_builtin; refine wpList_append_fits (w1.alloc (.cells ((R t).statA n ns) 53)) rfl (.tmp 33) (.tmp 42) 72 rfl w.heap.size 53 i0 7 Yba.underlying72 hi hz1 w.heap.size (keptTo R t).length q (statsOf R n ns (keptTo R t)) rfl o1 ⟨w1.heap.size, 0, none⟩ 1 1 ((R t).statA n ns).toList rfl rfl hcl.out hone.out (by rw [e1] at hle; simpa using hle) ?_; intro w2 ho2 hg2)
        have hw2 : Below w.heap.size w w2 := ((hw.trans (l1.mono hsz)).alloc (by omega) _).grown hg2 (by simp; omega) (by intro k hk; simp at hk; omega)
        clear o1 b1 hg2 l1 hsz hsz1 hcl hone
        go_wp2
        go_roundw
        case rel =>
          have e2 : (keptTo R (t + 1)).length = (keptTo R t).length + 1 := by rw [e1]; simp
          refine ⟨t + 1, by omega, by go_num, by rw [e2], ?_, hw2⟩
          rw [e2, e1, statsOf_snoc]
          exact ho2
        case measure => simp [intOf]; omega
    · obtain rfl : t = m := by omega
      have e1 := HQ.out
      have ho := HO.out
      rw [e1] at ho
      have hB := Blk.of_owns ho
      clear ho HO HQ F F1
      go_wp2
      go_ret
      exact ⟨w.heap.size, by rw [← e1]; rfl, Nat.le_refl _, hB, hw⟩
end Go.Proofs.Ybulkchpk
