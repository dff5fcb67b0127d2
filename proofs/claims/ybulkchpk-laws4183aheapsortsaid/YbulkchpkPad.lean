/-
  zzs4183cpad and zzs4183csame by their contracts.
-/
import Derived.Test.YbulkchpkRows
import Derived.Test.YbulkchpkRow
import Derived.WalkKit
import Derived.ProofKit
import Derived.OpenShut
import Derived.Deep.QuietTactic
import Derived.BigQuiet
import Derived.RegionTactic
import Derived.LoopTactic
namespace Go.Proofs.Ybulkchpk
open Go.ChangeShapes Go.WideShapes Go.ChangeAt Go.RowKit

theorem Yba.info2 : (Yba.prog.info? 2).map (fun i => (i.zero, i.size, i.bytes)) = some (some (.int .i64 0), 1, 8) := by kernel_rfl

/-- What pad makes of n numbers f: k numbers, 0 beyond the n-th. -/
def padF (n : Nat) (f : Nat → Int) (i : Nat) : Int := if i < n then f i else 0

set_option maxRecDepth 100000 in
set_option maxHeartbeats 1000000 in
theorem pad_any (a : Option Addr) (n c k : Nat) (f : Nat → Int) (w : World) (hk : k ≤ 1024) (hr : Reads w a n f) :
    Calls Yba.prog 22 #[.slice a n c, .int .i64 k] w fun e w' => e = .returned (.slice (some ⟨w.heap.size, 0, none⟩) k k) ∧ Blk w' w.heap.size 2 (row k (padF n f)) ∧ Below w.heap.size w w' := by
  obtain ⟨i0, hi, hz0, hz1, hz2⟩ := info_parts Yba.info2
  have hbytes : Hid (i0.bytes * k ≤ 281474976710656) := by unfold Hid; simp only [hz2]; omega
  have hmax : Hid (k ≤ maxLen) := by unfold Hid maxLen; omega
  clear hz2
  go_enter Yba.func22, Yba.ntmps22
  go_wp2_with (at_make; refine wpList_make_full _ rfl _ _ 22 rfl w.heap.size 2 i0 _ 1 Yba.underlying22 hi hz0 hz1 .i64 .i64 _ _ k rfl rfl rfl rfl hbytes.out hmax.out (Nat.le_refl _) ?_; intro w1 hown hgr)
  have hB0 : Blk w1 w.heap.size 2 (row k (fun _ => 0)) := by
    have := Blk.of_owns hown
    rw [← row_zero]
    simpa [Value.cells, toList_madeCells_one] using this
  have hbel : Below w.heap.size w w1 := (Below.refl _ _).grown hgr (Nat.le_refl _) (by simp)
  clear hown hgr hi hz0 hz1 hbytes hmax
  go_loopw [6] (fun i wr => ∃ t : Nat, t ≤ k ∧ t ≤ n ∧ i = .int .i64 t ∧ Blk wr w.heap.size 2 (row k (fun j => if j < t then f j else 0)) ∧ Below w.heap.size w wr) (fun i _ => k - (intOf i).toNat)
  case atStart => exact ⟨0, Nat.zero_le _, Nat.zero_le _, rfl, by simpa using hB0, hbel⟩
  case round =>
    clear hB0 hbel
    obtain ⟨t, ht, htn, rfl, hb, hw⟩ := hrel
    by_cases h1 : t < k
    · by_cases h2 : t < n
      · obtain ⟨b, off, rfl, hlt, hc⟩ : ∃ b off, a = some ⟨b, off, none⟩ ∧ b < w.heap.size ∧ ∀ j, j < n → w.cell? ⟨b, off + j, none⟩ = some (.int .i64 (f j)) := by
          rcases hr with hr | hr
          · omega
          · exact hr
        have c1 := (hw.cell (p := ⟨b, off + t, none⟩) hlt).trans (hc t h2)
        have c2 := hb.at t h1
        have f1 := hb.free t
        clear hc hr
        go_wp2
        go_roundw
        case rel =>
          refine ⟨t + 1, by omega, by omega, by go_num, ?_, hw.setCell (by simp) _⟩
          exact hb.put t (f t) _ (by simp) (fun i hi hne => by
            by_cases h : i < t
            · rw [if_pos (by omega), if_pos h]
            · rw [if_neg (by omega), if_neg h])
        case measure => simp [intOf]; omega
      · go_wp2
        go_ret
        exact ⟨rfl, hb.to (fun i hi => by
          unfold padF
          by_cases h : i < t
          · rw [if_pos h, if_pos (show i < n by omega)]
          · rw [if_neg h, if_neg (show ¬ i < n by omega)]), hw⟩
    · go_wp2
      go_ret
      exact ⟨rfl, hb.to (fun i hi => by unfold padF; rw [if_pos (show i < t by omega), if_pos (show i < n by omega)]), hw⟩

set_option maxRecDepth 100000 in
set_option maxHeartbeats 1000000 in
theorem same_any (g h k : Nat) (f : Nat → Int) (w : World) (hk : k ≤ 1024) (hg : Blk w g 2 (row k f)) (hh : Blk w h 2 (row k f)) (c d : Nat) :
    Calls Yba.prog 24 #[.slice (some ⟨g, 0, none⟩) k c, .slice (some ⟨h, 0, none⟩) k d] w fun e w' => e = .returned (.bool true) ∧ ∃ n, w' = w.drewN n := by
  go_enter Yba.func24, Yba.ntmps24
  go_wp2
  go_loopw [5] (fun i wr => ∃ t : Nat, t ≤ k ∧ i = .int .i64 t ∧ ∃ n, wr = w.drewN n) (fun i _ => k - (intOf i).toNat)
  case atStart => exact ⟨0, Nat.zero_le _, rfl, 0, rfl⟩
  case round =>
    obtain ⟨t, ht, rfl, n, rfl⟩ := hrel
    by_cases h1 : t < k
    · have c1 := hg.at t h1
      have c2 := hh.at t h1
      have t1 : (t : Int) < (k : Int) := by omega
      go_wp2_with fail
      go_quiet (fail)
      go_wp2
      go_roundw
      case rel => exact ⟨t + 1, by omega, by go_num, _, rfl⟩
      case measure => simp [intOf]; omega
    · go_wp2
      go_ret
      exact ⟨rfl, _, rfl⟩
end Go.Proofs.Ybulkchpk
