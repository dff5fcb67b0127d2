/-
  What the law's arguments are, read as data: a record of eight fields; a slice of strings, each within the form's reach.
-/
import Derived.Test.YbulkchpkFields
import Derived.SliceStrings
import Derived.SizedLaws
import Derived.ChangeArms
namespace Go.Proofs.Ybulkchpk
open Go.ChangeShapes Go.WideShapes Go.ChangeAt Go.RowKit

theorem trod_float {H : Type} {enc : TypeId × Value → H} {P : Program} {w : World} {base : Nat} {spare : Nat → Bool} {held : Bool} {fuel : Nat} {t : TypeId} {cs : List Value} {x : DataW H × List MemPlace} {k : FloatKind} (ht : P.underlying t = some (.float k))
    (h : DataW.trod enc P w base spare held fuel t cs = some x) : ∃ b, cs = [.float k b] := by
  cases fuel with
  | zero => simp [DataW.trod] at h
  | succ n =>
    unfold DataW.trod at h
    rw [ht] at h
    split at h <;> simp_all

theorem Yba.cells38 : Yba.prog.cellsOf 38 = 8 := by kernel_rfl
theorem Yba.cells9 : Yba.prog.cellsOf 9 = 1 := by kernel_rfl
theorem Yba.cells3 : Yba.prog.cellsOf 3 = 1 := by kernel_rfl
theorem Yba.cells2 : Yba.prog.cellsOf 2 = 1 := by kernel_rfl
theorem Yba.cells4 : Yba.prog.cellsOf 4 = 1 := by kernel_rfl
theorem Yba.cells36 : Yba.prog.cellsOf 36 = 1 := by kernel_rfl

theorem list8 {α : Type} {l : List α} (h : l.length = 8) : ∃ a b c d e f g i, l = [a, b, c, d, e, f, g, i] := by
  match l, h with
  | [a, b, c, d, e, f, g, i], _ => exact ⟨a, b, c, d, e, f, g, i, rfl⟩

/-- The cells of a record that can be read. -/
theorem rec_shape {H : Type} {enc : TypeId × Value → H} {w : World} {base : Nat} {spare : Nat → Bool} {held : Bool} {fuel : Nat} {cs : List Value} {x : DataW H × List MemPlace} (h : DataW.trod enc Yba.prog w base spare held fuel 38 cs = some x) :
    ∃ s0 s1 s2 i3 f4 i5 i6 b7, cs = (inV s0 s1 s2 i3 f4 i5 i6 b7).toList ∧ i6 ≤ 9223372036854775807 := by
  obtain ⟨xs, n, _, _, hl, hx, hf⟩ := DataW.trod_struct Yba.underlying38 h
  rw [Yba.cells38] at hl
  obtain ⟨c0, c1, c2, c3, c4, c5, c6, c7, rfl⟩ := list8 hl
  obtain ⟨x0, x1, x2, x3, x4, x5, x6, x7, rfl⟩ := list8 hx
  have g0 := hf 0 _ rfl
  have g1 := hf 1 _ rfl
  have g2 := hf 2 _ rfl
  have g3 := hf 3 _ rfl
  have g4 := hf 4 _ rfl
  have g5 := hf 5 _ rfl
  have g6 := hf 6 _ rfl
  have g7 := hf 7 _ rfl
  simp [Yba.cells9, Yba.cells3, Yba.cells2, Yba.cells4, Yba.cells36] at g0 g1 g2 g3 g4 g5 g6 g7
  obtain ⟨s0, e0, _⟩ := DataW.trod_string Yba.underlying9 g0
  obtain ⟨s1, e1, _⟩ := DataW.trod_string Yba.underlying9 g1
  obtain ⟨s2, e2, _⟩ := DataW.trod_string Yba.underlying9 g2
  obtain ⟨i3, e3, _⟩ := DataW.trod_int Yba.underlying3 g3
  obtain ⟨f4, e4⟩ := trod_float Yba.underlying36 g4
  obtain ⟨i5, e5, _⟩ := DataW.trod_int Yba.underlying2 g5
  obtain ⟨i6, e6, _, w6⟩ := DataW.trod_int Yba.underlying3 g6
  obtain ⟨b7, e7, _⟩ := DataW.trod_bool Yba.underlying4 g7
  simp at e0 e1 e2 e3 e4 e5 e6 e7
  subst e0 e1 e2 e3 e4 e5 e6 e7
  exact ⟨s0, s1, s2, i3, f4, i5, i6, b7, rfl, (bounds_i64 w6).2⟩

theorem weightsAll_mem {H : Type} {P : Program} {e : TypeId} : ∀ {ds : List (DataW H)} {d : DataW H}, d ∈ ds → ∀ n ∈ d.weights P e, n ∈ DataW.weightsAll P e ds
  | [], _, h, _, _ => by cases h
  | d' :: r, d, h, n, hn => by
    rw [DataW.weightsAll]
    rcases List.mem_cons.1 h with rfl | h
    · exact List.mem_append_left _ hn
    · exact List.mem_append_right _ (weightsAll_mem h n hn)

/-- A slice of strings that can be read: what the walks ask of it. -/
theorem names_shape {H : Type} {enc : TypeId × Value → H} {w : World} {a : Option Addr} {n c : Nat} {d : DataW H} {p : List MemPlace} (h : DataW.Trod enc Yba.prog w 0 (fun _ => true) true 39 (.slice a n c) d p)
    (hz : ∀ x ∈ d.weights Yba.prog 39, x ≤ reachBytes) : ∃ ns, ReadsS w a n ns := by
  obtain ⟨fuel, hf⟩ := h
  rcases open_strings Yba.underlying39 Yba.underlying9 Yba.cells9 hf with ⟨hcs, _⟩ | ⟨x, l, c', ss, hcs, _, hl, hm, hs, hx, hcell, _⟩
  · simp [Value.cells] at hcs
    obtain ⟨rfl, rfl, rfl⟩ := hcs
    exact ⟨fun _ => ByteArray.empty, .inl rfl⟩
  · simp [Value.cells] at hcs
    obtain ⟨rfl, rfl, rfl⟩ := hcs
    refine ⟨fun j => ss.getD j ByteArray.empty, ?_⟩
    by_cases h0 : n = 0
    · exact .inl h0
    simp only [if_true] at hs
    obtain ⟨b, off, spot⟩ := x
    have hspot : spot = none := by simpa [Addr.add] using World.cell?_spot (hcell 0 (by omega))
    subst hspot
    have hc : ∀ j, j < n → w.cell? ⟨b, off + j, none⟩ = some (.string (ss.getD j ByteArray.empty)) := fun j hj => by rw [← add_plain]; exact hcell j (by omega)
    refine .inr ⟨b, off, rfl, Go.block_lt_of_cell (hc 0 (by omega)), hc, ?_⟩
    intro j hj
    simp only [Prod.mk.injEq] at hx
    have hd := hx.1
    subst hd
    have hj' : j < ss.length := by omega
    have hmem : (DataW.lit (.string ss[j].data.toList) : DataW H) ∈ strs (ss.take n) := by
      unfold strs
      refine List.mem_map.2 ⟨ss[j], ?_, rfl⟩
      exact List.mem_take_iff_getElem.2 ⟨j, by omega, rfl⟩
    have := hz ss[j].data.toList.length (by
      rw [DataW.weights, Yba.underlying39]
      exact List.mem_cons_of_mem _ (List.mem_append_left _ (weightsAll_mem hmem _ (by simp [DataW.weights]))))
    simp only [List.getD_eq_getElem?_getD, List.getElem?_eq_getElem hj', Option.getD_some]
    have e : ss[j].size = ss[j].data.toList.length := rfl
    rw [e]
    unfold reachBytes at this
    omega
end Go.Proofs.Ybulkchpk
