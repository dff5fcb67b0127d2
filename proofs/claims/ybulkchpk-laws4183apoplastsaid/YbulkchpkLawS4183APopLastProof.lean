/-
  A proof of 'Rows.LawS4183APopLastSaid'. The frame is the kit's shell for this function; the walk is this seat's.
-/
import Derived.Test.YbulkchpkRows
import Derived.WalkKit
import Derived.ProofKit
import Derived.OpenShut
import Derived.ShutString
import Derived.ChangeOld
import Derived.Below
import Derived.Deep.QuietTactic
import Derived.BigQuiet
import Derived.RegionTactic
import Derived.LoopTactic
import Derived.Test.YbulkchpkPop
namespace Go.Proofs.Ybulkchpk.lawS4183APopLast
open Go.ChangeShapes Go.WideShapes Go.ChangeAt Go.RowKit
open Go.ChangeMaps (open_string shut_string)
set_option linter.unusedVariables false

theorem own : ownKnob Yba.prog.godebug = none := by kernel_rfl
theorem laidOut : laidOutB Yba.prog = true := by kernel_rfl

/-- WHAT THE WALK IS TOLD OF A SLICE OF INTEGERS THAT CAME IN: it is nil; or it leads to a row of 'cap' cells, the numbers 'zs' (the first 'len' are its elements, the rest its spare room), each fitting its kind. -/
def IsRow (k : IntKind) (w : World) (a : Option Addr) (len cap : Nat) (zs : List Int) : Prop :=
  (a = none ∧ len = 0 ∧ cap = 0 ∧ zs = []) ∨
  ∃ x, a = some x ∧ len ≤ cap ∧ cap ≤ maxLen ∧ zs.length = cap ∧ (∀ i, i < zs.length → w.cell? (x.add i) = some (.int k (zs.getD i 0))) ∧ ∀ n ∈ zs, (Lit.int k n).wf = true

set_option maxRecDepth 100000 in
set_option maxHeartbeats 1000000 in
theorem walkx (b off m c : Nat) (zs : List Int) (w : World) (h1 : m + 1 ≤ 1024) (hz : m + 1 ≤ zs.length) (hb : b < w.heap.size) (hc : ∀ j, j < zs.length → w.cell? ⟨b, off + j, none⟩ = some (.int .i64 (zs.getD j 0))) :
    Calls Yba.prog 3 #[.slice (some ⟨b, off, none⟩) (m + 1) c] w fun e w' => e = .returned (.bool true) ∧ Below w.heap.size w w' := by
  obtain ⟨i0, hi, hz0, hz1, hz2⟩ := info_parts Yba.info26
  have hbytes : Hid (i0.bytes * (m + 1) ≤ 281474976710656) := by unfold Hid; simp only [hz2]; omega
  have hmax : Hid (m + 1 ≤ maxLen) := by unfold Hid maxLen; omega
  clear hz2
  have hn0 : ((m : Int) + 1 == 0) = false := by simp; omega
  go_enter Yba.func3, Yba.ntmps3
  go_wp2_with (at_make; refine wpList_make_full _ rfl _ _ 24 rfl w.heap.size 26 i0 _ 1 Yba.underlying24 hi hz0 hz1 .i64 .i64 _ _ (m + 1) rfl rfl (by simp) (by simp) hbytes.out hmax.out (by simp) ?_; intro w1 hown hgr)
  have hB0 : Blk w1 w.heap.size 26 (fillTo zs (m + 1) 0) := by
    have := Blk.of_owns hown
    rw [fillTo_zero]
    simpa [Value.cells, toList_madeCells_one] using this
  have hs1 := hB0.lt
  have hbel : Below w.heap.size w w1 := (Below.refl _ _).grown hgr (Nat.le_refl _) (by simp)
  clear hown hgr hi hz0 hz1 hbytes hmax
  go_loopw [4] (fun i wr => ∃ k : Nat, k ≤ m + 1 ∧ i = .int .i64 k ∧ Blk wr w.heap.size 26 (fillTo zs (m + 1) k) ∧ Blk wr w1.heap.size 24 [.slice (some ⟨w.heap.size, 0, none⟩) (m + 1) (m + 1)] ∧ Below w.heap.size w wr) (fun i _ => m + 1 - (intOf i).toNat)
  case atStart => exact ⟨0, Nat.zero_le _, rfl, hB0.alloc _, Blk.newA _ _ _, hbel.alloc (Nat.le_of_lt hs1) _⟩
  case round =>
    obtain ⟨k, hk, rfl, hr, hh, hb1⟩ := hrel
    have c1 := hh.cell 0 _ rfl
    have c2 := fun j hj => (hb1.cell (p := ⟨b, off + j, none⟩) hb).trans (hc j hj)
    have f1 := hr.free k
    by_cases hlt : k < m + 1
    · have c3 := c2 k (by omega)
      have c4 := hr.cell k _ (fillTo_at zs (m + 1) k hlt hz)
      clear c2 hc
      go_wp2
      go_region
      go_wp2
      go_roundw
      case rel =>
        have e := fillTo_set zs (m + 1) k hlt hz
        refine ⟨k + 1, by omega, by go_num, ?_, ?_, ?_⟩
        · rw [← e]
          simpa using (hr.set k (.int .i64 (zs.getD k 0))).drew
        · exact (hh.other (by simp; omega) _).drew
        · exact (hb1.setCell (by simp) _).drew
      case measure => simp [intOf]; omega
    · obtain rfl : k = m + 1 := by omega
      have c5 := c2 m (by omega)
      have c6 : wr.cell? ⟨w.heap.size, m, none⟩ = some (.int .i64 (zs.getD m 0)) := by
        refine hr.cell m _ ?_
        rw [fillTo_full]
        have : m < zs.length := by omega
        simp [List.getElem?_eq_getElem this]
      go_wp2_with fail
      refine (pop_any _ _ _ m _ _ (Nat.le_refl _) (by unfold maxLen; omega) hh c6).mono ?_
      rintro e w2 ⟨rfl, hh2, hk2⟩
      have e1 := assert26_yes
      have d1 := hh2.cell 0 _ rfl
      have d2 := (hk2.cell (p := ⟨b, off + m, none⟩) (by have := hb1.size; simp; omega) (by have := hb; simp; omega)).trans c5
      have hr2 := hk2.blk hr (by simp; omega)
      have hb2 := hk2.below hb1 (hb1.size) (by simp; omega)
      have t1 : IntKind.i64.wrap (m : Int) = m := by simp [IntKind.wrap, IntKind.bits, IntKind.signed]; omega
      have t2 : (m : Int) < (m : Int) + 1 := by omega
      have hb3 : b < w2.heap.size := by have := hb2.size; omega
      have hb4 := hh2.lt
      have hb5 := hr2.lt
      clear hk2 hh c1 c2 c5 c6 f1 hlt hr hb1
      go_wp2_with fail
      go_quiet (fail)
      go_wp2_with fail
      go_loopw [8] (fun i wr => ∃ k : Nat, k ≤ m ∧ i = .int .i64 k ∧ Blk wr w.heap.size 26 (fillTo zs (m + 1) (m + 1)) ∧ Blk wr w1.heap.size 24 [.slice (some ⟨w.heap.size, 0, none⟩) m (m + 1)] ∧ Below w.heap.size w wr) (fun i _ => m - (intOf i).toNat)
      case atStart => exact ⟨0, Nat.zero_le _, rfl, (hr2.alloc _).drewN _, (hh2.alloc _).drewN _, bel_drewN (hb2.alloc (by omega) _) _⟩
      case round =>
        clear d1 d2 hh2 hr2 hb2 hb4 hb5 hb3
        obtain ⟨k, hk, rfl, hr, hh, hb1⟩ := hrel
        have c1 := hh.cell 0 _ rfl
        by_cases hlt : k < m
        · have c3 := (hb1.cell (p := ⟨b, off + k, none⟩) hb).trans (hc k (by omega))
          have c4 : wr.cell? ⟨w.heap.size, k, none⟩ = some (.int .i64 (zs.getD k 0)) := by
            refine hr.cell k _ ?_
            rw [fillTo_full]
            have : k < zs.length := by omega
            rw [List.getElem?_map, List.getElem?_take_of_lt (by omega)]
            simp [List.getElem?_eq_getElem this]
          have t5 : (k : Int) < (m : Int) := by omega
          have t6 : (k : Int) < (m : Int) + 1 := by omega
          clear hc
          go_wp2_with fail
          go_quiet (fail)
          go_wp2
          go_roundw
          case rel => exact ⟨k + 1, by omega, by go_num, hr.drewN _, hh.drewN _, bel_drewN hb1 _⟩
          case measure => simp [intOf]; omega
        · clear hc
          go_wp2
          go_ret
          exact ⟨rfl, hb1⟩

/-! ### STEP 1: THE WALK -/
set_option maxRecDepth 100000 in
theorem walk (a0 : Option Addr) (len0 cap0 : Nat) (z0 : List Int) (w : World) (w0 : IsRow .i64 w a0 len0 cap0 z0) :
    Calls Yba.prog 3 #[.slice a0 len0 cap0] w fun e w' => e = .returned (.bool true) ∧ Below w.heap.size w w' := by
  by_cases h0 : len0 = 0
  · subst h0
    clear w0
    go_enter Yba.func3, Yba.ntmps3
    go_wp2
    go_ret
    exact ⟨rfl, Below.refl _ _⟩
  by_cases h1 : len0 ≤ 1024
  · rcases w0 with ⟨_, h, _⟩ | ⟨x, rfl, hl, hm, hz, hcell, _⟩
    · exact absurd h h0
    obtain ⟨m, rfl⟩ : ∃ m, len0 = m + 1 := ⟨len0 - 1, by omega⟩
    obtain ⟨b, off, spot⟩ := x
    have hspot : spot = none := by simpa [Addr.add] using World.cell?_spot (hcell 0 (by omega))
    subst hspot
    have hc : ∀ j, j < z0.length → w.cell? ⟨b, off + j, none⟩ = some (.int .i64 (z0.getD j 0)) := fun j hj => by rw [← add_plain]; exact hcell j hj
    exact walkx b off m cap0 z0 w h1 (by omega) (Go.block_lt_of_cell (hc 0 (by omega))) hc
  · have h2 : ((len0 : Int) == 0) = false := by simp; omega
    have h3 : (1024 : Int) < (len0 : Int) := by omega
    clear w0
    go_enter Yba.func3, Yba.ntmps3
    go_wp2
    go_ret
    exact ⟨rfl, Below.refl _ _⟩

/-! ### THE ROW's STEP: WRITTEN OUT: LEAVE IT -/
set_option maxRecDepth 100000 in
theorem lifted (os : Os) (started : os.Started) (H : Type) (enc : TypeId × Value → H) :
    ReturnsInHanded {} Yba.checked os 3 .any (Rows.lawS4183APopLastSpec.pre6 enc Yba.prog Yba.f3 Rows.lawS4183APopLastRow.domain false) (Rows.lawS4183APopLastSpec.post enc Yba.prog Yba.f3 false true false false) := by
  refine returnsInHanded_of_change (C := Yba.checked) own started (by kernel_rfl) Yba.func3
    (ChangeSpec.witness6 (enc := enc) (C := Yba.checked) false ⟨#[], #[.slice none 0 0], []⟩ 8 (by kernel_rfl) (by kernel_rfl) (by kernel_rfl) (by kernel_rfl)) ?_
  intro W base args ds gs before hval0 hW hcnd _
  have hval : ∀ (j : Nat) t v, Yba.f3.params[j]? = some t → args[j]? = some v → Value.okWide Yba.prog W .any base t v := hval0
  have hW' := hW
  obtain ⟨p, q, hA0, hV, rfl, hfz, hnd⟩ := hW
  have hA : DataW.TrodAll enc Yba.prog W 0 (fun _ => true) true Yba.f3.params.toList args.toList ds p := hA0
  rw [Yba.params3] at hA hval
  obtain ⟨v0, vs0, d0, ds0, p0, q0, hargs, rfl, rfl, h0, r0⟩ := trodAll_cons hA
  obtain ⟨rfl, rfl, rfl⟩ := trodAll_nil r0
  obtain rfl : args = #[v0] := by cases args; simp_all
  obtain ⟨rfl, rfl⟩ := trodVars_none hV
  obtain ⟨a0, len0, cap0, rfl⟩ := okWide_slice Yba.underlying22 (hval 0 22 v0 rfl rfl)
  have k0 := h0
  have lt0 : ∀ x ∈ p0, x.block < W.heap.size := by obtain ⟨m, hm⟩ := k0; exact DataW.trod_lt m _ _ _ hm
  obtain ⟨z0, w0⟩ : ∃ zs, IsRow .i64 W a0 len0 cap0 zs := by
    obtain ⟨fuel, hf⟩ := h0
    rcases open_ints Yba.underlying22 Yba.underlying2 (by kernel_rfl) hf with ⟨hcs, _⟩ | ⟨x, l, c, zs, hcs, _, hl, hm, hz, _, hcell, hwz⟩
    · simp [Value.cells] at hcs
      obtain ⟨rfl, rfl, rfl⟩ := hcs
      exact ⟨[], .inl ⟨rfl, rfl, rfl, rfl⟩⟩
    · simp [Value.cells] at hcs
      obtain ⟨rfl, rfl, rfl⟩ := hcs
      exact ⟨zs, .inr ⟨_, rfl, hl, hm, by simpa using hz, hcell, hwz⟩⟩
  clear hA0 hval0
  refine (walk a0 len0 cap0 z0 W w0).mono fun e W' ⟨he, bel⟩ => ?_
  subst he
  exact ⟨_, rfl, _, _, _, [], _, [], hW', trodAll_mk1 (shut_bool Yba.underlying4 _), (trodAll_cons_mk (Below.trod laidOut (by kernel_rfl) (of_decide_eq_true (by kernel_rfl)) k0 bel lt0) trodAll_mk0), rfl, bel.frame _, fun h => by cases h⟩

theorem over : Rows.lawS4183APopLastRow.holds Yba.pinned (OpenSpec.ofChange Rows.lawS4183APopLastSpec) :=
  OpenClaim.holds_of_wide 3 Yba.f3 rfl rfl rfl rfl rfl rfl rfl ⟨rfl, rfl, rfl, rfl, rfl⟩ rfl rfl rfl rfl rfl (by kernel_rfl) Yba.func3 (by kernel_rfl)
    (of_decide_eq_true (by kernel_rfl)) (by unfold Func.isWrapper; first | (rw [if_pos (by decide +kernel)]; kernel_rfl) | (rw [if_neg (by decide +kernel)]; exact ⟨rfl, rfl⟩))
    (fun os started H enc _ => lifted os started H enc)

/-- ████ THE STATEMENT ████ -/
theorem proved : Rows.LawS4183APopLastSaid := over
end Go.Proofs.Ybulkchpk.lawS4183APopLast
