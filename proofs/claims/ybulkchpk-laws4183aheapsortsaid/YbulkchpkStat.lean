/-
  zzs4183bnode, zzs4183brecord, (*Scheduler).status, zzs4183bsched by their contracts.
-/
import Derived.Test.YbulkchpkRows
import Derived.Test.YbulkchpkRow
import Derived.WalkKit
import Derived.ProofKit
import Derived.OpenShut
import Derived.Deep.QuietTactic
import Derived.BigQuiet
import Derived.BigRegion
import Derived.RegionTactic
import Derived.LoopTactic
import Derived.Deep.Cut
import Derived.Deep.MidRow
namespace Go.Proofs.Ybulkchpk
open Go.ChangeShapes Go.WideShapes Go.ChangeAt Go.RowKit

theorem run_store_float (P : Program) (w : World) (a : Addr) (m : Mode) (k : FloatKind) (b : Nat) : (store a (.float k b) m).run P w = stored P w a (.float k b) m := run_store P w a _ m rfl
attribute [local go_sem] run_store_float

/-- The node that a record is leased to. -/
def nodeOf (sel : Int) (n : Nat) : Int := if sel < 0 then sel else if n = 0 then -1 else sel % (n : Int)

set_option maxRecDepth 100000 in
set_option maxHeartbeats 400000 in
theorem node_any (sel : Int) (n : Nat) (hn : n ≤ 1024) (hs : sel ≤ 9223372036854775807) (w : World) :
    Calls Yba.prog 18 #[.int .i64 sel, .int .i64 n] w fun e w' => e = .returned (.int .i64 (nodeOf sel n)) ∧ w' = w := by
  by_cases h1 : sel < 0
  · have e : nodeOf sel n = sel := by simp [nodeOf, h1]
    rw [e]
    clear e
    go_enter Yba.func18, Yba.ntmps18
    go_wp2
    go_ret
    exact ⟨rfl, rfl⟩
  · by_cases h2 : n = 0
    · subst h2
      have e : nodeOf sel 0 = -1 := by simp [nodeOf, h1]
      rw [e]
      clear e
      go_enter Yba.func18, Yba.ntmps18
      go_wp2
      go_ret
      exact ⟨rfl, rfl⟩
    · have e : nodeOf sel n = sel % (n : Int) := by simp [nodeOf, h1, h2]
      have h3 : ((n : Int) == 0) = false := by simp; omega
      have h4 : 0 ≤ sel := by omega
      have h5 : 0 < (n : Int) := by omega
      rw [e]
      clear e h2
      go_enter Yba.func18, Yba.ntmps18
      go_wp2
      go_ret

      exact ⟨rfl, rfl⟩

/-- A record as a value: id, queue, job set, grace, deadline, state, node, gone. -/
abbrev recV (s0 s1 s2 : ByteArray) (i3 : Int) (f4 : Nat) (i5 nd : Int) (b7 : Bool) : Array Value :=
  #[.string s0, .string s1, .string ⟨#[]⟩, .map none, .int .i64 0, .int .i64 0, .string ⟨#[]⟩, .int .i64 0, .int .i64 0, .pointer none, .string s2, .float .f64 f4, .int .i64 i5, .int .i64 0, .int .i64 i3, .int .i64 nd, .int .i64 0, .bool b7]

theorem Blk.range {w : World} {g : Nat} {t : TypeId} {cs : List Value} (h : Blk w g t cs) (o n : Nat) : w.rangeAt g o ((cs.drop o).take n) := fun j v hv => by
  refine h.cell (o + j) v ?_
  rw [List.getElem?_take] at hv
  split at hv
  · simpa using hv
  · cases hv
theorem Blk.whole {w : World} {g : Nat} {t : TypeId} {cs : List Value} (h : Blk w g t cs) : w.rangeAt g 0 cs := fun j v hv => h.cell (0 + j) v (by simpa using hv)
theorem Blk.there {w : World} {g : Nat} {t : TypeId} {cs : List Value} (h : Blk w g t cs) (o n : Nat) (hn : o + n ≤ cs.length) : w.there g o n := fun j hj =>
  ⟨by rw [h.cell (o + j) _ (List.getElem?_eq_getElem (show o + j < cs.length by omega))]; rfl, h.free _⟩
/-- Cells put over a stretch of a list. -/
def over (cs : List Value) (o : Nat) (vs : List Value) : List Value := cs.take o ++ vs ++ cs.drop (o + vs.length)
theorem Blk.setCells {g : Nat} {t : TypeId} : ∀ (vs : List Value) (o : Nat) {w : World} {cs : List Value}, Blk w g t cs → o + vs.length ≤ cs.length → Blk (w.setCells g o vs) g t (over cs o vs)
  | [], o, w, cs, h, _ => by simpa [World.setCells, over] using h
  | v :: r, o, w, cs, h, hl => by
    simp only [List.length_cons] at hl
    rw [World.setCells]
    have := Blk.setCells r (o + 1) (h.set o v) (by simp; omega)
    have e : over (cs.set o v) (o + 1) r = over cs o (v :: r) := by
      unfold over
      have ho : o < cs.length := by omega
      rw [List.drop_set_of_lt (by omega), List.set_eq_take_append_cons_drop, if_pos ho]
      have e1 : (cs.take o).length = o := by simp; omega
      rw [List.take_append, e1, List.take_of_length_le (by omega)]
      simp [show o + (r.length + 1) = o + 1 + r.length by omega]
    rw [← e]
    exact this
theorem Kept.setCells {S : List Nat} {g : Nat} : ∀ (vs : List Value) (o : Nat) {a w : World}, Kept S a w → (g ∈ S ∨ a.heap.size ≤ g) → Kept S a (w.setCells g o vs)
  | [], _, _, _, h, _ => h
  | v :: r, o, _, _, h, hg => Kept.setCells r (o + 1) (h.setCell hg v) hg
theorem over_all (cs vs : List Value) (h : vs.length = cs.length) : over cs 0 vs = vs := by
  simp [over, h]

/-- The one result lies in memory. -/
theorem results_cell {fn : Func} {p : Tmp} {ty : TypeId} (h : fn.results = #[.cell p ty]) (tmps : Array Value) (P : Program) (w : World) (a : Addr) (v : Value) (hp : tmps.getD p undef = .pointer (some a)) (hl : (loadVar ty a).run P w = .ok v w) :
    (results fn tmps).run P w = .ok v w := by
  simp only [results, h]
  have hp' : tmps[p]?.getD undef = .pointer (some a) := by simpa using hp
  simp [hp', asAddr, hl]
theorem Yba.size50 : (Yba.prog.info? 50).map (·.size) = some 18 := by kernel_rfl

theorem recV_one (s0 s1 s2 : ByteArray) (i3 : Int) (f4 : Nat) (i5 nd : Int) (b7 : Bool) : (recV s0 s1 s2 i3 f4 i5 nd b7).all (·.oneCell') = true := by
  simp [Value.oneCell']

set_option maxRecDepth 100000 in
set_option maxHeartbeats 1000000 in
theorem record_any (s0 s1 s2 : ByteArray) (i3 : Int) (f4 : Nat) (i5 i6 : Int) (b7 : Bool) (n : Nat) (hn : n ≤ 1024) (hs : i6 ≤ 9223372036854775807) (w : World) :
    Calls Yba.prog 16 #[.agg #[.string s0, .string s1, .string s2, .int .i64 i3, .float .f64 f4, .int .i64 i5, .int .i64 i6, .bool b7], .int .i64 n] w fun e w' =>
      e = .returned (.agg (recV s0 s1 s2 i3 f4 i5 (nodeOf i6 n) b7)) ∧ Below w.heap.size w w' := by
  go_enter Yba.func16, Yba.ntmps16
  go_upto_region 10 with (go_at_call 18; refine (node_any _ n hn hs _).mono ?_; rintro e w' ⟨rfl, rfl⟩)
  have e2 := Blk.newA ((w.alloc (Obj.cells #[.string s0, .string s1, .string s2, .int .i64 i3, .float .f64 f4, .int .i64 i5, .int .i64 i6, .bool b7] 38)).alloc (Obj.cells (recV ⟨#[]⟩ ⟨#[]⟩ ⟨#[]⟩ 0 0 0 0 false) 50)) (recV s0 s1 s2 i3 f4 i5 (nodeOf i6 n) b7) 50
  have e1 := (Blk.newA (w.alloc (Obj.cells #[.string s0, .string s1, .string s2, .int .i64 i3, .float .f64 f4, .int .i64 i5, .int .i64 i6, .bool b7] 38)) (recV ⟨#[]⟩ ⟨#[]⟩ ⟨#[]⟩ 0 0 0 0 false) 50).alloc (Obj.cells (recV s0 s1 s2 i3 f4 i5 (nodeOf i6 n) b7) 50)
  simp only [World.size_alloc] at e1 e2
  have hb : Below w.heap.size w (((w.alloc (Obj.cells #[.string s0, .string s1, .string s2, .int .i64 i3, .float .f64 f4, .int .i64 i5, .int .i64 i6, .bool b7] 38)).alloc (Obj.cells (recV ⟨#[]⟩ ⟨#[]⟩ ⟨#[]⟩ 0 0 0 0 false) 50)).alloc (Obj.cells (recV s0 s1 s2 i3 f4 i5 (nodeOf i6 n) b7) 50)) := (((Below.refl _ _).alloc (Nat.le_refl _) _).alloc (by simp) _).alloc (by simp; omega) _
  generalize ((w.alloc (Obj.cells #[.string s0, .string s1, .string s2, .int .i64 i3, .float .f64 f4, .int .i64 i5, .int .i64 i6, .bool b7] 38)).alloc (Obj.cells (recV ⟨#[]⟩ ⟨#[]⟩ ⟨#[]⟩ 0 0 0 0 false) 50)).alloc (Obj.cells (recV s0 s1 s2 i3 f4 i5 (nodeOf i6 n) b7) 50) = w9 at e1 e2 hb ⊢
  go_wp2_with (first
    | (refine wpList_load_mid rfl 50 (.tmp 5) rfl _ 0 rfl (recV s0 s1 s2 i3 f4 i5 (nodeOf i6 n) b7).toList _ e2.whole Yba.underlying50 rfl Yba.size50 ?_)
    | (refine wpList_store_mid rfl 50 (.tmp 4) (.tmp 39) rfl _ 0 (recV s0 s1 s2 i3 f4 i5 (nodeOf i6 n) b7) rfl rfl (e1.there 0 18 (Nat.le_refl _)) Yba.size50 (recV_one s0 s1 s2 i3 f4 i5 (nodeOf i6 n) b7) ?_))
  have e3 := e1.setCells (recV s0 s1 s2 i3 f4 i5 (nodeOf i6 n) b7).toList 0 (Nat.le_refl _)
  rw [over_all _ _ (by rfl)] at e3
  refine bodyPost_ret (v := .agg (recV s0 s1 s2 i3 f4 i5 (nodeOf i6 n) b7)) (results_cell Yba.results16 _ _ _ _ _ rfl (run_loadVar_mid _ _ 0 50 _ _ e3.whole Yba.underlying50 rfl Yba.size50)) rfl ⟨rfl, ?_⟩
  exact (Kept.setCells _ 0 (Kept.refl [w.heap.size + 1] w9) (.inl (by simp))).below hb (by have := hb.size; omega) (by simp)
end Go.Proofs.Ybulkchpk
