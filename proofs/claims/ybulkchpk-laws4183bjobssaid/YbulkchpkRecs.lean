/-
  Records as plain data; status and ok once more, one contract for every record; the records that are kept.
-/
import Derived.Test.YbulkchpkFields
namespace Go.Proofs.Ybulkchpk
open Go.ChangeShapes Go.WideShapes Go.ChangeAt Go.RowKit

/-- A record of the law's. -/
structure Rec where
  s0 : ByteArray
  s1 : ByteArray
  s2 : ByteArray
  i3 : Int
  f4 : Nat
  i5 : Int
  i6 : Int
  b7 : Bool

abbrev Rec.inA (r : Rec) : Array Value := inV r.s0 r.s1 r.s2 r.i3 r.f4 r.i5 r.i6 r.b7
abbrev Rec.recA (r : Rec) (n : Nat) : Array Value := recV r.s0 r.s1 r.s2 r.i3 r.f4 r.i5 (nodeOf r.i6 n) r.b7
def nodeName (ns : Nat → ByteArray) (n : Nat) (i6 : Int) : ByteArray := if nodeOf i6 n < 0 then ⟨#[]⟩ else pre (ns (nodeOf i6 n).toNat)
abbrev Rec.statA (r : Rec) (n : Nat) (ns : Nat → ByteArray) : Array Value := statV r.s0 r.s1 r.s2 r.i3 r.f4 r.i5 (nodeName ns n r.i6)

theorem nodeOf_lt (i6 : Int) (n : Nat) (h : ¬ nodeOf i6 n < 0) : ∃ j : Nat, nodeOf i6 n = (j : Int) ∧ j < n := by
  unfold nodeOf at h ⊢
  by_cases h1 : i6 < 0
  · rw [if_pos h1] at h; omega
  · rw [if_neg h1] at h ⊢
    by_cases h2 : n = 0
    · rw [if_pos h2] at h; omega
    · rw [if_neg h2] at h ⊢
      have hp : (0 : Int) < (n : Int) := by omega
      have hlt := Int.emod_lt_of_pos i6 hp
      have hge := Int.emod_nonneg i6 (show (n : Int) ≠ 0 by omega)
      exact ⟨(i6 % (n : Int)).toNat, by omega, by omega⟩

theorem recAt_range {w : World} {b o : Nat} {r : Rec} {n : Nat} (g : w.rangeAt b o (r.recA n).toList) : RecAt w b o r.s0 r.s1 r.s2 r.i3 r.f4 r.i5 (nodeOf r.i6 n) :=
  ⟨g 0 _ rfl, g 1 _ rfl, g 10 _ rfl, g 14 _ rfl, g 11 _ rfl, g 12 _ rfl, g 15 _ rfl⟩

theorem status_all (Sb L C N n b o : Nat) (ns : Nat → ByteArray) (r : Rec) (w : World) (hr : w.rangeAt b o (r.recA n).toList)
    (k1 : w.cell? ⟨Sb, 0, none⟩ = some (.pointer (some ⟨L, 0, none⟩))) (k2 : w.cell? ⟨L, 0, none⟩ = some (.pointer (some ⟨C, 0, none⟩))) (k3 : w.cell? ⟨C, 1, none⟩ = some (.slice (some ⟨N, 0, none⟩) n n))
    (k4 : ∀ j, j < n → w.cell? ⟨N, j * 6, none⟩ = some (.string (pre (ns j)))) :
    Calls Yba.prog 17 #[.pointer (some ⟨Sb, 0, none⟩), .pointer (some ⟨b, o, none⟩)] w fun e w' => e = .returned (.agg (r.statA n ns)) ∧ Below w.heap.size w w' := by
  have ra := recAt_range hr
  by_cases hnd : nodeOf r.i6 n < 0
  · have e : nodeName ns n r.i6 = ⟨#[]⟩ := by simp [nodeName, hnd]
    unfold Rec.statA
    rw [e]
    exact status_none Sb b o r.s0 r.s1 r.s2 r.i3 r.f4 r.i5 _ w ra hnd
  · obtain ⟨j, hj, hjn⟩ := nodeOf_lt r.i6 n hnd
    have e : nodeName ns n r.i6 = pre (ns j) := by simp [nodeName, hj]; omega
    unfold Rec.statA
    rw [e]
    rw [hj] at ra
    exact status_some Sb L C N n j b o (pre (ns j)) r.s0 r.s1 r.s2 r.i3 r.f4 r.i5 w ra hjn k1 k2 k3 (k4 j hjn)

theorem ok_all (r : Rec) (a : Option Addr) (n c : Nat) (ns : Nat → ByteArray) (w : World) (hn : n ≤ 1024) (hs : r.i6 ≤ 9223372036854775807) (hr : ReadsS w a n ns) :
    Calls Yba.prog 19 #[.agg (r.statA n ns), .agg r.inA, .slice a n c] w fun e w' => e = .returned (.bool true) ∧ Below w.heap.size w w' := by
  by_cases hnd : nodeOf r.i6 n < 0
  · have e : nodeName ns n r.i6 = ⟨#[]⟩ := by simp [nodeName, hnd]
    unfold Rec.statA
    rw [e]
    exact ok_none' r.s0 r.s1 r.s2 r.i3 r.f4 r.i5 r.i6 r.b7 a n c w hn hs hnd
  · obtain ⟨j, hj, hjn⟩ := nodeOf_lt r.i6 n hnd
    have e : nodeName ns n r.i6 = pre (ns j) := by simp [nodeName, hj]; omega
    unfold Rec.statA
    rw [e]
    rcases hr with h | ⟨b, off, rfl, hlt, hc, hz⟩
    · omega
    exact ok_some' r.s0 r.s1 r.s2 r.i3 r.f4 r.i5 r.i6 r.b7 b off n c j (ns j) w hn hs hj hjn hlt (hc j hjn) (hz j hjn)

/-- The places, of the first t, whose records are not gone. -/
def keptTo (R : Nat → Rec) (t : Nat) : List Nat := (List.range t).filter fun j => !(R j).b7
theorem keptTo_gone (R : Nat → Rec) (t : Nat) (h : (R t).b7 = true) : keptTo R (t + 1) = keptTo R t := by simp [keptTo, List.range_succ, List.filter_append, h]
theorem keptTo_stay (R : Nat → Rec) (t : Nat) (h : (R t).b7 = false) : keptTo R (t + 1) = keptTo R t ++ [t] := by simp [keptTo, List.range_succ, List.filter_append, h]
theorem keptTo_le (R : Nat → Rec) (t : Nat) : (keptTo R t).length ≤ t := by
  have := List.length_filter_le (fun j => !(R j).b7) (List.range t)
  simpa [keptTo] using this
theorem keptTo_mono (R : Nat → Rec) (t m : Nat) (h : t ≤ m) : (keptTo R t).length ≤ (keptTo R m).length := by
  induction m with
  | zero => have : t = 0 := by omega
            subst this; exact Nat.le_refl _
  | succ m ih =>
    by_cases e : t = m + 1
    · subst e; exact Nat.le_refl _
    · refine Nat.le_trans (ih (by omega)) ?_
      cases hb : (R m).b7
      · rw [keptTo_stay R m hb]; simp
      · rw [keptTo_gone R m hb]; exact Nat.le_refl _

/-- The statuses of the listed records, one behind the other. -/
def statsOf (R : Nat → Rec) (n : Nat) (ns : Nat → ByteArray) (l : List Nat) : List Value := l.flatMap fun j => ((R j).statA n ns).toList
theorem statsOf_snoc (R : Nat → Rec) (n : Nat) (ns : Nat → ByteArray) (l : List Nat) (t : Nat) : statsOf R n ns (l ++ [t]) = statsOf R n ns l ++ ((R t).statA n ns).toList := by simp [statsOf]
theorem statsOf_length (R : Nat → Rec) (n : Nat) (ns : Nat → ByteArray) (l : List Nat) : (statsOf R n ns l).length = l.length * 7 := by
  induction l with
  | nil => rfl
  | cons a l ih => simp [statsOf] at ih ⊢; omega
/-- The status at place k of the list. -/
theorem statsOf_at (R : Nat → Rec) (n : Nat) (ns : Nat → ByteArray) (l : List Nat) (k : Nat) (j : Nat) (h : l[k]? = some j) : ((statsOf R n ns l).drop (k * 7)).take 7 = ((R j).statA n ns).toList := by
  induction l generalizing k with
  | nil => simp at h
  | cons a l ih =>
    cases k with
    | zero =>
      simp at h
      subst h
      simp [statsOf]
    | succ k =>
      simp only [List.getElem?_cons_succ] at h
      have := ih k h
      rw [show (k + 1) * 7 = 7 + k * 7 by omega]
      unfold statsOf at this ⊢
      rw [List.flatMap_cons, ← List.drop_drop, List.drop_left' (by rfl)]
      exact this
theorem keptTo_at (R : Nat → Rec) (t m : Nat) (h : t < m) (hb : (R t).b7 = false) : (keptTo R m)[(keptTo R t).length]? = some t := by
  induction m with
  | zero => omega
  | succ m ih =>
    by_cases e : t = m
    · subst e; rw [keptTo_stay R t hb]; simp
    · have := ih (by omega)
      cases hm : (R m).b7
      · rw [keptTo_stay R m hm, List.getElem?_append_left (List.getElem?_eq_some_iff.1 this).1]; exact this
      · rw [keptTo_gone R m hm]; exact this
end Go.Proofs.Ybulkchpk
