/-
  zzs4183bsched by its contract.
-/
import Derived.Test.YbulkchpkStat
namespace Go.Proofs.Ybulkchpk
open Go.ChangeShapes Go.WideShapes Go.ChangeAt Go.RowKit

/-- A slice of n strings at the address a reads ns; each has room for one byte more. -/
def ReadsS (w : World) (a : Option Addr) (n : Nat) (ns : Nat → ByteArray) : Prop :=
  n = 0 ∨ ∃ b off, a = some ⟨b, off, none⟩ ∧ b < w.heap.size ∧ (∀ j, j < n → w.cell? ⟨b, off + j, none⟩ = some (.string (ns j))) ∧ ∀ j, j < n → (ns j).size ≤ 140737488351232
theorem ReadsS.below {B : Nat} {w w' : World} {a : Option Addr} {n : Nat} {f : Nat → ByteArray} (h : ReadsS w a n f) (hb : Below B w w') (hB : w.heap.size ≤ B) : ReadsS w' a n f := by
  rcases h with h | ⟨b, off, rfl, hlt, hc, hz⟩
  · exact .inl h
  · exact .inr ⟨b, off, rfl, by have := hb.size; omega, fun j hj => (hb.cell (p := ⟨b, off + j, none⟩) (by show b < B; omega)).trans (hc j hj), hz⟩
theorem ReadsS.kept {S : List Nat} {w w' : World} {a : Option Addr} {n : Nat} {f : Nat → ByteArray} (h : ReadsS w a n f) (hb : Kept S w w') (hS : ∀ b off, a = some ⟨b, off, none⟩ → b ∉ S) : ReadsS w' a n f := by
  rcases h with h | ⟨b, off, rfl, hlt, hc, hz⟩
  · exact .inl h
  · exact .inr ⟨b, off, rfl, by have := hb.size; omega, fun j hj => (hb.cell (p := ⟨b, off + j, none⟩) hlt (hS b off rfl)).trans (hc j hj), hz⟩

/-- What the law puts ahead of each name. -/
def pre (s : ByteArray) : ByteArray := ⟨#[110]⟩ ++ s
theorem pre_room (s : ByteArray) (h : s.size ≤ 140737488351232) : ¬ 9223372036854775807 < (⟨#[110]⟩ : ByteArray).size + s.size := by
  have : (⟨#[110]⟩ : ByteArray).size = 1 := rfl
  omega

/-- The scheduler's own cells. -/
abbrev schedV (L : Nat) : Array Value :=
  #[.pointer (some ⟨L, 0, none⟩), .float .f64 0, .int .i64 0, .int .i64 0, .nilIface, .slice none 0 0, .int .i64 0, .slice none 0 0, .slice none 0 0, .slice none 0 0, .pointer none]

abbrev clusV (N n : Nat) : Array Value :=
  #[.slice none 0 0, .slice (some ⟨N, 0, none⟩) n n, .slice none 0 0, .slice none 0 0, .nilFunc, .slice none 0 0, .int .i64 0, .slice none 0 0, .pointer none, .slice none 0 0, .int .i64 0, .bool false, .slice none 0 0, .int .i64 0, .bool false, .int .i64 0, .int .i64 0, .pointer none, .int .i64 0, .int .i64 0, .int .i64 0, .slice none 0 0, .slice none 0 0, .slice none 0 0, .slice none 0 0]
abbrev layV (C : Nat) : Array Value :=
  #[.pointer (some ⟨C, 0, none⟩), .pointer none, .int .i64 0, .int .i64 0, .map none, .map none, .map none, .map none, .int .i64 0, .map none, .pointer none]

/-- A scheduler with n named nodes. -/
structure Sched (w w' : World) (Sb L C N n : Nat) (ns : Nat → ByteArray) : Prop where
  k0 : Blk w' Sb 71 (schedV L).toList
  k2 : w'.cell? ⟨L, 0, none⟩ = some (.pointer (some ⟨C, 0, none⟩))
  k3 : w'.cell? ⟨C, 1, none⟩ = some (.slice (some ⟨N, 0, none⟩) n n)
  k4 : ∀ j, j < n → w'.cell? ⟨N, j * 6, none⟩ = some (.string (pre (ns j)))
  o0 : w.heap.size ≤ N
  o1 : N < C
  o2 : C < L
  o3 : L < Sb
  bel : Below w.heap.size w w'

theorem Yba.info80 : (Yba.prog.info? 80).map (fun i => (i.zero, i.size, i.bytes)) = some (some (.agg #[.string ⟨#[]⟩, .slice none 0 0, .slice none 0 0, .slice none 0 0, .slice none 0 0, .pointer none]), 6, 120) := by kernel_rfl

set_option maxRecDepth 100000 in
set_option maxHeartbeats 1000000 in
theorem sched_any (a : Option Addr) (n c : Nat) (ns : Nat → ByteArray) (w : World) (hn : n ≤ 1024) (hr : ReadsS w a n ns) :
    Calls Yba.prog 15 #[.slice a n c] w fun e w' => ∃ Sb L C N, e = .returned (.pointer (some ⟨Sb, 0, none⟩)) ∧ Sched w w' Sb L C N n ns := by
  obtain ⟨i0, hi, hz0, hz1, hz2⟩ := info_parts Yba.info80
  have hbytes : Hid (i0.bytes * n ≤ 281474976710656) := by unfold Hid; simp only [hz2]; omega
  have hmax : Hid (n ≤ maxLen) := by unfold Hid maxLen; omega
  clear hz2
  go_enter Yba.func15, Yba.ntmps15
  go_wp2_with (at_make; refine wpList_make_full _ rfl _ _ 81 rfl w.heap.size 80 i0 _ 6 Yba.underlying81 hi hz0 hz1 .i64 .i64 _ _ n rfl rfl rfl rfl hbytes.out hmax.out (Nat.le_refl _) ?_; intro w1 hown hgr)
  obtain ⟨cs0, hB0, hlen0⟩ : ∃ cs, Blk w1 w.heap.size 80 cs ∧ cs.length = n * 6 := ⟨_, Blk.of_owns hown, hown.1⟩
  have hbel : Below w.heap.size w w1 := (Below.refl _ _).grown hgr (Nat.le_refl _) (by simp)
  clear hown hgr hi hz0 hz1 hbytes hmax
  go_loopw [10] (fun i wr => ∃ t : Nat, t ≤ n ∧ i = .int .i64 t ∧ Below w.heap.size w wr ∧ ∃ cs, Blk wr w.heap.size 80 cs ∧ cs.length = n * 6 ∧ ∀ j, j < t → cs[j * 6]? = some (.string (pre (ns j)))) (fun i _ => n - (intOf i).toNat)
  case atStart => exact ⟨0, Nat.zero_le _, rfl, hbel, cs0, hB0, hlen0, fun j hj => by omega⟩
  case round =>
    clear hB0 hbel hlen0
    obtain ⟨t, ht, rfl, hw, cs, hb, hl, hcs⟩ := hrel
    by_cases h1 : t < n
    · obtain ⟨b, off, rfl, hlt, hc, hz⟩ : ∃ b off, a = some ⟨b, off, none⟩ ∧ b < w.heap.size ∧ (∀ j, j < n → w.cell? ⟨b, off + j, none⟩ = some (.string (ns j))) ∧ ∀ j, j < n → (ns j).size ≤ 140737488351232 := by
        rcases hr with hr | hr
        · omega
        · exact hr
      have c1 := (hw.cell (p := ⟨b, off + t, none⟩) hlt).trans (hc t h1)
      have c2 := hb.cell (t * 6) _ (List.getElem?_eq_getElem (show t * 6 < cs.length by omega))
      have f1 := hb.free (t * 6)
      have r1 := pre_room (ns t) (hz t h1)
      clear hc hr hz
      go_wp2
      go_roundw
      case rel =>
        refine ⟨t + 1, by omega, by go_num, hw.setCell (by simp) _, _, hb.set (t * 6) _, by simpa using hl, ?_⟩
        intro j hj
        by_cases e : j = t
        · subst e
          rw [List.getElem?_set_self (by omega)]
          rfl
        · rw [List.getElem?_set_ne (by omega)]
          exact hcs j (by omega)
      case measure => simp [intOf]; omega
    · obtain rfl : t = n := by omega
      have hlt := hb.lt
      go_wp2
      go_ret
      refine ⟨_, wr.heap.size + 1, wr.heap.size, w.heap.size, rfl, ?_⟩
      have bC := Blk.newA wr (clusV w.heap.size t) 91
      have bL := Blk.newA (wr.alloc (.cells (clusV w.heap.size t) 91)) (layV wr.heap.size) 110
      have bS := Blk.newA ((wr.alloc (.cells (clusV w.heap.size t) 91)).alloc (.cells (layV wr.heap.size) 110)) (schedV (wr.heap.size + 1)) 71
      simp only [World.size_alloc] at bL bS
      exact {
        k0 := bS
        k2 := (bL.alloc _).cell 0 _ rfl
        k3 := ((bC.alloc _).alloc _).cell 1 _ rfl
        k4 := fun j hj => (((hb.alloc _).alloc _).alloc _).cell _ _ (hcs j hj)
        o0 := Nat.le_refl _, o1 := hlt, o2 := Nat.lt_succ_self _, o3 := Nat.lt_succ_self _
        bel := ((hw.alloc (by omega) _).alloc (by simp; omega) _).alloc (by simp; omega) _ }
end Go.Proofs.Ybulkchpk
