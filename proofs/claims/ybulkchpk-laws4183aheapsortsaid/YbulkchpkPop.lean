/-
  The method Pop of the heap slice, by its contract; the row that a loop fills with numbers.
-/
import Derived.Test.YbulkchpkRows
import Derived.Test.YbulkchpkBase
import Derived.WalkKit
import Derived.ProofKit
import Derived.OpenShut
import Derived.Deep.QuietTactic
import Derived.BigQuiet
import Derived.RegionTactic
import Derived.LoopTactic
namespace Go.Proofs.Ybulkchpk
open Go.ChangeShapes Go.WideShapes Go.ChangeAt Go.RowKit

theorem Yba.info26 : (Yba.prog.info? 26).map (fun i => (i.zero, i.size, i.bytes)) = some (some (.agg #[.int .i64 0]), 1, 8) := by kernel_rfl
set_option maxHeartbeats 400000 in
theorem pop_any (w : World) (hB g m cap : Nat) (x : Int) (hm : m + 1 ≤ cap) (hcap : cap ≤ maxLen) (hh : Blk w hB 24 [.slice (some ⟨g, 0, none⟩) (m + 1) cap]) (hc : w.cell? ⟨g, m, none⟩ = some (.int .i64 x)) :
    Calls Yba.prog 9 #[.pointer (some ⟨hB, 0, none⟩)] w fun e w' => e = .returned (.iface 26 (.agg #[.int .i64 x])) ∧ Blk w' hB 24 [.slice (some ⟨g, 0, none⟩) m cap] ∧ Kept [hB] w w' := by
  unfold maxLen at hcap
  have h1 := hh.cell 0 _ rfl
  have h2 := hh.free 0
  have hl := hh.lt
  go_enter Yba.func9, Yba.ntmps9
  go_wp2
  go_ret
  exact ⟨rfl, (hh.set 0 _).alloc _, ((Kept.refl _ _).setCell (.inl (by simp)) _).alloc _⟩

theorem assert26_yes (W : World) (v : Value) : (Instr.typeAssert (.iface 26 v) 20 26 true).run Yba.prog W = .ok (.tuple #[v, .bool true]) W := by kernel_rfl
/-- The row of n cells of which the first k hold the numbers of zs, the rest 0. -/
def fillTo (zs : List Int) (n k : Nat) : List Value := (zs.take k).map (Value.int .i64) ++ List.replicate (n - k) (.int .i64 0)

theorem fillTo_zero (zs : List Int) (n : Nat) : fillTo zs n 0 = List.replicate n (.int .i64 0) := by simp [fillTo]
theorem fillTo_set (zs : List Int) (n k : Nat) (h : k < n) (hz : n ≤ zs.length) : (fillTo zs n k).set k (.int .i64 (zs.getD k 0)) = fillTo zs n (k + 1) := by
  have hk : k < zs.length := by omega
  unfold fillTo
  rw [List.take_succ_eq_append_getElem hk, List.map_append, List.set_append]
  have : (List.map (Value.int .i64) (zs.take k)).length = k := by simp; omega
  rw [if_neg (by omega), this]
  obtain ⟨d, hd⟩ : ∃ d, n - k = d + 1 := ⟨n - k - 1, by omega⟩
  have hd' : n - (k + 1) = d := by omega
  rw [hd, hd', List.replicate_succ]
  simp [List.getElem?_eq_getElem hk, -List.map_take]
theorem fillTo_at (zs : List Int) (n k : Nat) (h : k < n) (hz : n ≤ zs.length) : (fillTo zs n k)[k]? = some (.int .i64 0) := by
  unfold fillTo
  have : (List.map (Value.int .i64) (zs.take k)).length = k := by simp; omega
  rw [List.getElem?_append_right (by omega), this, List.getElem?_replicate, if_pos (by omega)]
theorem fillTo_full (zs : List Int) (n : Nat) : fillTo zs n n = (zs.take n).map (Value.int .i64) := by simp [fillTo]

end Go.Proofs.Ybulkchpk
