/-
  A block of cells of the call's own, by its whole content: what it reads, what a store makes of it, that it stays while other blocks turn. No program in sight.
-/
import Derived.WalkKit
import Derived.Below
import Derived.OneCell
import Derived.Deep.Draws
namespace Go.Proofs.Ybulkchpk
open Go.RowKit

/-- Block g of the world w holds just the cells cs, of element type t, none of them frozen. -/
def Blk (w : World) (g : Nat) (t : TypeId) (cs : List Value) : Prop := w.heap[g]? = some (.cells cs.toArray t (0, 0))

theorem Blk.lt {w : World} {g : Nat} {t : TypeId} {cs : List Value} (h : Blk w g t cs) : g < w.heap.size := lt_of_block h

theorem Blk.cell {w : World} {g : Nat} {t : TypeId} {cs : List Value} (h : Blk w g t cs) (j : Nat) (v : Value) (hj : cs[j]? = some v) : w.cell? ⟨g, j, none⟩ = some v := by
  unfold Blk at h
  simp [World.cell?, h, hj]

theorem Blk.free {w : World} {g : Nat} {t : TypeId} {cs : List Value} (h : Blk w g t cs) (j : Nat) : w.frozen? ⟨g, j, none⟩ = false := by
  unfold Blk at h
  simp [World.frozen?, h]

theorem Blk.of_heap {w w' : World} {g : Nat} {t : TypeId} {cs : List Value} (h : Blk w g t cs) (e : w'.heap[g]? = w.heap[g]?) : Blk w' g t cs := by
  unfold Blk at h ⊢
  rw [e, h]

theorem Blk.drew {w : World} {g : Nat} {t : TypeId} {cs : List Value} (h : Blk w g t cs) : Blk w.drew g t cs := h
theorem Blk.drewN {w : World} {g : Nat} {t : TypeId} {cs : List Value} (h : Blk w g t cs) (n : Nat) : Blk (w.drewN n) g t cs := h

theorem Blk.alloc {w : World} {g : Nat} {t : TypeId} {cs : List Value} (h : Blk w g t cs) (o : Obj) : Blk (w.alloc o) g t cs :=
  h.of_heap (Below.heap_alloc _ _ _ h.lt)

theorem Blk.new (w : World) (cs : List Value) (t : TypeId) : Blk (w.alloc (.cells cs.toArray t)) w.heap.size t cs := by
  show (w.heap.push _)[w.heap.size]? = _
  simp

theorem Blk.newA (w : World) (cs : Array Value) (t : TypeId) : Blk (w.alloc (.cells cs t)) w.heap.size t cs.toList := by
  show (w.heap.push _)[w.heap.size]? = _
  simp

theorem Blk.set {w : World} {g : Nat} {t : TypeId} {cs : List Value} (h : Blk w g t cs) (j : Nat) (u : Value) : Blk (w.setCell ⟨g, j, none⟩ u) g t (cs.set j u) := by
  have hlt := h.lt
  unfold Blk at h ⊢
  have h' : w.heap[g] = .cells cs.toArray t (0, 0) := by simpa [Array.getElem?_eq_getElem hlt] using h
  show (w.heap.modify g _)[g]? = _
  rw [Array.getElem?_eq_getElem (by simpa using hlt), Array.getElem_modify_self, h']
  simp

theorem Blk.other {w : World} {g : Nat} {t : TypeId} {cs : List Value} (h : Blk w g t cs) {a : Addr} (ha : g ≠ a.block) (u : Value) : Blk (w.setCell a u) g t cs :=
  h.of_heap (Below.heap_setCell _ _ _ _ ha)

theorem Blk.below {B : Nat} {w w' : World} {g : Nat} {t : TypeId} {cs : List Value} (h : Blk w g t cs) (hb : Below B w w') (hg : g < B) : Blk w' g t cs :=
  h.of_heap (hb.block g hg)

/-- Out of the kit's 'ownsRow' where the row has no spare room. -/
theorem Blk.of_owns {w : World} {base : Nat} {e : TypeId} {size g n : Nat} {xs : List Value} (h : w.ownsRow base e size (.slice (some ⟨g, 0, none⟩) n n) n xs) : Blk w g e xs := by
  obtain ⟨h1, h2⟩ := h
  rcases h2 with ⟨h2, _⟩ | ⟨g', cap, cur, hv, _, hh, _, _, hs, ht⟩
  · simp at h2
  · simp at hv
    obtain ⟨rfl, rfl⟩ := hv
    unfold Blk
    rw [hh]
    have : cur.toList.take (n * size) = cur.toList := List.take_of_length_le (by simp [hs])
    rw [this] at ht
    rw [← ht]

theorem Blk.grown {w w' : World} {g : Nat} {t : TypeId} {cs : List Value} (h : Blk w g t cs) (hg : w.grownBy w' none) : Blk w' g t cs :=
  h.of_heap (hg.block g h.lt (by simp))

theorem bel_drewN {B : Nat} {a w : World} (h : Below B a w) (n : Nat) : Below B a (w.drewN n) := ⟨h.os, h.tape, h.output, h.size, h.block⟩

/-- From w to w' at most the blocks of S have turned, and new blocks have come. -/
structure Kept (S : List Nat) (w w' : World) : Prop where
  os : w'.os = w.os
  tape : w'.tape = w.tape
  output : w'.output = w.output
  size : w.heap.size ≤ w'.heap.size
  block : ∀ k, k < w.heap.size → k ∉ S → w'.heap[k]? = w.heap[k]?

theorem Kept.refl (S : List Nat) (w : World) : Kept S w w := ⟨rfl, rfl, rfl, Nat.le_refl _, fun _ _ _ => rfl⟩
theorem Kept.trans {S : List Nat} {a b c : World} (h : Kept S a b) (k : Kept S b c) : Kept S a c :=
  ⟨k.os.trans h.os, k.tape.trans h.tape, k.output.trans h.output, Nat.le_trans h.size k.size, fun i hi hn => (k.block i (Nat.lt_of_lt_of_le hi h.size) hn).trans (h.block i hi hn)⟩
theorem Kept.mono {S T : List Nat} {w w' : World} (h : Kept S w w') (hS : ∀ s ∈ S, s < w.heap.size → s ∈ T) : Kept T w w' := ⟨h.os, h.tape, h.output, h.size, fun k hk hn => h.block k hk (fun hs => hn (hS k hs hk))⟩
theorem Kept.drew {S : List Nat} {a w : World} (h : Kept S a w) : Kept S a w.drew := ⟨h.os, h.tape, h.output, h.size, h.block⟩
theorem Kept.drewN {S : List Nat} {a w : World} (h : Kept S a w) (n : Nat) : Kept S a (w.drewN n) := ⟨h.os, h.tape, h.output, h.size, h.block⟩
theorem Kept.alloc {S : List Nat} {a w : World} (h : Kept S a w) (o : Obj) : Kept S a (w.alloc o) :=
  h.trans ⟨rfl, rfl, rfl, by simp, fun k hk _ => Below.heap_alloc _ _ _ hk⟩
theorem Kept.setCell {S : List Nat} {a w : World} (h : Kept S a w) {p : Addr} (hp : p.block ∈ S ∨ a.heap.size ≤ p.block) (u : Value) : Kept S a (w.setCell p u) :=
  ⟨h.os, h.tape, h.output, by simpa [World.setCell] using h.size, fun k hk hn => by
    rw [Below.heap_setCell _ _ _ _ (fun e => by rcases hp with hp | hp; exact hn (e ▸ hp); omega)]
    exact h.block k hk hn⟩
theorem Kept.grown {S : List Nat} {a w w' : World} {row : Option Nat} (h : Kept S a w) (hg : w.grownBy w' row) (hr : ∀ k, row = some k → k ∈ S ∨ a.heap.size ≤ k) : Kept S a w' :=
  ⟨hg.os.trans h.os, hg.tape.trans h.tape, hg.output.trans h.output, Nat.le_trans h.size hg.size, fun k hk hn => by
    rw [hg.block k (Nat.lt_of_lt_of_le hk h.size) (fun e => by rcases hr k e.symm with q | q; exact hn q; omega)]
    exact h.block k hk hn⟩
theorem Kept.of_below {S : List Nat} {w w' : World} (h : Below w.heap.size w w') : Kept S w w' := ⟨h.os, h.tape, h.output, h.size, fun k hk _ => h.block k hk⟩
theorem Kept.below {S : List Nat} {B : Nat} {a w w' : World} (k : Kept S w w') (h : Below B a w) (hB : B ≤ w.heap.size) (hS : ∀ s ∈ S, B ≤ s) : Below B a w' :=
  h.trans ⟨k.os, k.tape, k.output, k.size, fun i hi => k.block i (by omega) (fun hs => by have := hS i hs; omega)⟩
theorem Kept.blk {S : List Nat} {w w' : World} (k : Kept S w w') {g : Nat} {t : TypeId} {cs : List Value} (h : Blk w g t cs) (hg : g ∉ S) : Blk w' g t cs := h.of_heap (k.block g h.lt hg)
theorem Kept.cell {S : List Nat} {w w' : World} (k : Kept S w w') {p : Addr} (hp : p.block < w.heap.size) (hg : p.block ∉ S) : w'.cell? p = w.cell? p := World.cell?_of_block (w := w) (k.block _ hp hg)
theorem Kept.frozen {S : List Nat} {w w' : World} (k : Kept S w w') {p : Addr} (hp : p.block < w.heap.size) (hg : p.block ∉ S) : w'.frozen? p = w.frozen? p := World.frozen?_of_block (w := w) (k.block _ hp hg)
end Go.Proofs.Ybulkchpk
