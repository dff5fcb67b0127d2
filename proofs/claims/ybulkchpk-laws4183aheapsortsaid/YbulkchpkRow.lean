/-
  A row of k int64 cells, by a function of the index; what a slice of integers that came in reads. No program in sight.
-/
import Derived.Test.YbulkchpkBase
namespace Go.Proofs.Ybulkchpk
open Go.RowKit

/-- The cells of a row of k numbers. -/
def row (k : Nat) (f : Nat → Int) : List Value := (List.range k).map fun i => Value.int .i64 (f i)

theorem row_length (k : Nat) (f : Nat → Int) : (row k f).length = k := by simp [row]
theorem row_at (k : Nat) (f : Nat → Int) (j : Nat) (h : j < k) : (row k f)[j]? = some (.int .i64 (f j)) := by
  simp [row, List.getElem?_range h]
theorem row_set (k : Nat) (f g : Nat → Int) (j : Nat) (v : Int) (hv : g j = v) (hg : ∀ i, i < k → i ≠ j → g i = f i) : (row k f).set j (.int .i64 v) = row k g := by
  refine List.ext_getElem? fun i => ?_
  rw [List.getElem?_set]
  by_cases hi : i < k
  · rw [row_length, row_at k g i hi]
    by_cases hij : j = i
    · subst hij; rw [if_pos rfl, if_pos hi, hv]
    · rw [if_neg hij, row_at k f i hi, hg i hi (fun e => hij e.symm)]
  · have e1 : (row k g)[i]? = none := by rw [List.getElem?_eq_none]; rw [row_length]; omega
    have e2 : (row k f)[i]? = none := by rw [List.getElem?_eq_none]; rw [row_length]; omega
    rw [e1, e2, row_length]
    split
    · rw [if_neg (by omega)]
    · rfl
theorem row_congr (k : Nat) (f g : Nat → Int) (h : ∀ i, i < k → f i = g i) : row k f = row k g := by
  refine List.ext_getElem? fun i => ?_
  by_cases hi : i < k
  · rw [row_at k f i hi, row_at k g i hi, h i hi]
  · rw [List.getElem?_eq_none (by rw [row_length]; omega), List.getElem?_eq_none (by rw [row_length]; omega)]
theorem row_zero (k : Nat) : List.replicate k (Value.int .i64 0) = row k (fun _ => 0) := by
  refine List.ext_getElem? fun i => ?_
  by_cases hi : i < k
  · rw [row_at k _ i hi, List.getElem?_replicate, if_pos hi]
  · rw [List.getElem?_eq_none (by simpa using hi), List.getElem?_eq_none (by rw [row_length]; omega)]

/-- A row in block g: its cell, its store. -/
theorem Blk.at {w : World} {g k : Nat} {t : TypeId} {f : Nat → Int} (h : Blk w g t (row k f)) (j : Nat) (hj : j < k) : w.cell? ⟨g, j, none⟩ = some (.int .i64 (f j)) := h.cell j _ (row_at k f j hj)
theorem Blk.put {w : World} {g k : Nat} {t : TypeId} {f : Nat → Int} (h : Blk w g t (row k f)) (j : Nat) (v : Int) (f' : Nat → Int) (hv : f' j = v) (hf : ∀ i, i < k → i ≠ j → f' i = f i) : Blk (w.setCell ⟨g, j, none⟩ (.int .i64 v)) g t (row k f') := by
  rw [← row_set k f f' j v hv hf]
  exact h.set j _
theorem Blk.to {w : World} {g k : Nat} {t : TypeId} {f f' : Nat → Int} (h : Blk w g t (row k f)) (hf : ∀ i, i < k → f i = f' i) : Blk w g t (row k f') := by
  rw [← row_congr k f f' hf]; exact h

/-- A slice of n integers at the address a (none for nil) reads f. -/
def Reads (w : World) (a : Option Addr) (n : Nat) (f : Nat → Int) : Prop :=
  n = 0 ∨ ∃ b off, a = some ⟨b, off, none⟩ ∧ b < w.heap.size ∧ ∀ j, j < n → w.cell? ⟨b, off + j, none⟩ = some (.int .i64 (f j))

theorem Reads.below {B : Nat} {w w' : World} {a : Option Addr} {n : Nat} {f : Nat → Int} (h : Reads w a n f) (hb : Below B w w') (hB : w.heap.size ≤ B) : Reads w' a n f := by
  rcases h with h | ⟨b, off, rfl, hlt, hc⟩
  · exact .inl h
  · exact .inr ⟨b, off, rfl, by have := hb.size; omega, fun j hj => (hb.cell (p := ⟨b, off + j, none⟩) (by show b < B; omega)).trans (hc j hj)⟩
theorem Reads.kept {S : List Nat} {w w' : World} {a : Option Addr} {n : Nat} {f : Nat → Int} (h : Reads w a n f) (hb : Kept S w w') (hS : ∀ b off, a = some ⟨b, off, none⟩ → b ∉ S) : Reads w' a n f := by
  rcases h with h | ⟨b, off, rfl, hlt, hc⟩
  · exact .inl h
  · exact .inr ⟨b, off, rfl, by have := hb.size; omega, fun j hj => (hb.cell (p := ⟨b, off + j, none⟩) hlt (hS b off rfl)).trans (hc j hj)⟩
theorem Blk.reads {w : World} {g k : Nat} {t : TypeId} {f : Nat → Int} (h : Blk w g t (row k f)) : Reads w (some ⟨g, 0, none⟩) k f :=
  .inr ⟨g, 0, rfl, h.lt, fun j hj => by simpa using h.at j hj⟩
end Go.Proofs.Ybulkchpk
