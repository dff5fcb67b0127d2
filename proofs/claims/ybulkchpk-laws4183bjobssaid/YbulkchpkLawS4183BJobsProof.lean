/-
  A proof of 'Rows.LawS4183BJobsSaid'. The frame is after the kit's shells (a law over slices), with the form's own reach.
-/
import Derived.Test.YbulkchpkRows
import Derived.WalkKit
import Derived.ProofKit
import Derived.OpenShut
import Derived.ShutString
import Derived.ChangeOld
import Derived.Below
import Derived.SizedLaws
import Derived.Test.YbulkchpkOpen
import Derived.Test.YbulkchpkJobsLaw
namespace Go.Proofs.Ybulkchpk.lawS4183BJobs
open Go.ChangeShapes Go.WideShapes Go.ChangeAt Go.RowKit

theorem own : ownKnob Yba.prog.godebug = none := by kernel_rfl
theorem laidOut : laidOutB Yba.prog = true := by kernel_rfl

/-- A slice of records that can be read: what the walk asks of it. -/
theorem recs_shape {H : Type} {enc : TypeId × Value → H} {w : World} {a : Option Addr} {m c : Nat} {d : DataW H} {p : List MemPlace} (h : DataW.Trod enc Yba.prog w 0 (fun _ => true) true 59 (.slice a m c) d p) : ∃ R, ReadsR w a m R := by
  obtain ⟨fuel, hf⟩ := h
  rcases DataW.trod_slice Yba.underlying59 hf with ⟨hcs, _⟩ | ⟨x, l, c', elems, rest, n, _, hcs, _, _, hl, hm, hlen, hel, _, _⟩
  · simp [Value.cells] at hcs
    obtain ⟨rfl, rfl, rfl⟩ := hcs
    exact ⟨fun _ => ⟨ByteArray.empty, ByteArray.empty, ByteArray.empty, 0, 0, 0, 0, false⟩, .inl rfl⟩
  · simp [Value.cells] at hcs
    obtain ⟨rfl, rfl, rfl⟩ := hcs
    by_cases h0 : m = 0
    · exact ⟨fun _ => ⟨ByteArray.empty, ByteArray.empty, ByteArray.empty, 0, 0, 0, 0, false⟩, .inl h0⟩
    have each : ∀ j, ∃ r : Rec, j < m → (∀ i v, r.inA.toList[i]? = some v → w.cell? ((x.add (j * 8)).add i) = some v) ∧ r.i6 ≤ 9223372036854775807 := by
      intro j
      by_cases hj : j < m
      · have hb := hel j hj
        rw [Yba.cells38, List.getElem?_eq_getElem (by omega), Option.bind_eq_some_iff] at hb
        obtain ⟨cs, hcs, hy⟩ := hb
        obtain ⟨s0, s1, s2, i3, f4, i5, i6, b7, rfl, hi6⟩ := rec_shape hy
        obtain ⟨_, hle, hget⟩ := World.cells?_some hcs
        exact ⟨⟨s0, s1, s2, i3, f4, i5, i6, b7⟩, fun _ => ⟨fun i v hv => by
          have hi : i < 8 := (List.getElem?_eq_some_iff.1 hv).1
          rw [hget i hi]; exact hv, hi6⟩⟩
      · exact ⟨⟨ByteArray.empty, ByteArray.empty, ByteArray.empty, 0, 0, 0, 0, false⟩, fun h => absurd h hj⟩
    have hR := fun j => (Classical.choose_spec (each j))
    refine ⟨fun j => Classical.choose (each j), ?_⟩
    obtain ⟨b, off, spot⟩ := x
    have c0 := (hR 0 (by omega)).1 0 _ rfl
    have hspot : spot = none := by
      have := World.cell?_spot c0
      simp [Addr.add] at this
      exact this
    subst hspot
    have hrg : ∀ j, j < m → w.rangeAt b (off + j * 8) (Classical.choose (each j)).inA.toList := fun j hj i v hv => by
      have := (hR j hj).1 i v hv
      rw [Addr.add_mid, Addr.add_mid] at this
      exact this
    exact .inr ⟨b, off, rfl, Go.block_lt_of_cell (hrg 0 (by omega) 0 _ rfl), hrg, fun j hj => (hR j hj).2⟩

/-! ### STEP 1: THE WALK -/
set_option maxRecDepth 100000 in
theorem walk (a : Option Addr) (m c : Nat) (a' : Option Addr) (n c' : Nat) (R : Nat → Rec) (ns : Nat → ByteArray) (w : World) (hR : ReadsR w a m R) (hN : ReadsS w a' n ns) :
    Calls Yba.prog 6 #[.slice a m c, .slice a' n c'] w fun e w' => e = .returned (.bool true) ∧ Below w.heap.size w w' := by
  by_cases hm : m ≤ 1024
  · by_cases hn : n ≤ 1024
    · exact jobslaw a m c a' n c' R ns w hm hn hR hN
    · have h3 : (1024 : Int) < (n : Int) := by omega
      have h4 : (m : Int) ≤ 1024 := by omega
      have h5 : decide ((1024 : Int) < (m : Int)) = false := decide_eq_false (by omega)
      clear hR hN
      go_enter Yba.func6, Yba.ntmps6
      go_wp2
      go_ret
      exact ⟨rfl, Below.refl _ _⟩
  · have h3 : (1024 : Int) < (m : Int) := by omega
    clear hR hN
    go_enter Yba.func6, Yba.ntmps6
    go_wp2
    go_ret
    exact ⟨rfl, Below.refl _ _⟩

/-! ### THE ROW's STEP -/
set_option maxRecDepth 100000 in
theorem lifted (os : Os) (started : os.Started) (H : Type) (enc : TypeId × Value → H) :
    ReturnsInHanded {} Yba.checked os 6 .any (Rows.lawS4183BJobsSpec.pre6 enc Yba.prog Yba.f6 Rows.lawS4183BJobsRow.domain false) (Rows.lawS4183BJobsSpec.post enc Yba.prog Yba.f6 false true false false) := by
  refine returnsInHanded_of_change_sized (C := Yba.checked) own started (by kernel_rfl) Yba.func6
    (ChangeSpec.witness6 (enc := enc) (C := Yba.checked) false ⟨#[], #[.slice none 0 0, .slice none 0 0], []⟩ 8 (by kernel_rfl) (by kernel_rfl) (by kernel_rfl) (by kernel_rfl)) ?_
  intro W base args ds gs before hval0 hW hcnd hsz0 _
  have hval : ∀ (j : Nat) t v, Yba.f6.params[j]? = some t → args[j]? = some v → Value.okWide Yba.prog W .any base t v := hval0
  have hsz : (DataW.weightsEach Yba.prog (Yba.f6.params.toList ++ Rows.lawS4183BJobsSpec.plain.varTypes Yba.prog) (ds ++ gs)).all (· ≤ reachBytes) = true := hsz0
  have hW' := hW
  obtain ⟨p, q, hA0, hV, rfl, hfz, hnd⟩ := hW
  have hA : DataW.TrodAll enc Yba.prog W 0 (fun _ => true) true Yba.f6.params.toList args.toList ds p := hA0
  rw [Yba.params6] at hA hval hsz
  obtain ⟨v0, vs0, d0, ds0, p0, q0, hargs, rfl, rfl, h0, r0⟩ := trodAll_cons hA
  obtain ⟨v1, vs1, d1, ds1, p1, q1, rfl, rfl, rfl, h1, r1⟩ := trodAll_cons r0
  obtain ⟨rfl, rfl, rfl⟩ := trodAll_nil r1
  obtain rfl : args = #[v0, v1] := by cases args; simp_all
  obtain ⟨rfl, rfl⟩ := trodVars_none hV
  obtain ⟨a, m, c, rfl⟩ := okWide_slice Yba.underlying59 (hval 0 59 v0 rfl rfl)
  obtain ⟨a', n, c', rfl⟩ := okWide_slice Yba.underlying39 (hval 1 39 v1 rfl rfl)
  have k0 := h0
  have lt0 : ∀ x ∈ p0, x.block < W.heap.size := by obtain ⟨m, hm⟩ := k0; exact DataW.trod_lt m _ _ _ hm
  have k1 := h1
  have lt1 : ∀ x ∈ p1, x.block < W.heap.size := by obtain ⟨m, hm⟩ := k1; exact DataW.trod_lt m _ _ _ hm
  obtain ⟨R, hR⟩ := recs_shape h0
  obtain ⟨ns, hr⟩ := names_shape h1 (fun x hx => by
    have := DataW.weights_mem_each (P := Yba.prog) (ts := [59, 39] ++ Rows.lawS4183BJobsSpec.plain.varTypes Yba.prog) (ds := [d0, d1] ++ []) (j := 1) rfl rfl x hx
    simpa using List.all_eq_true.1 hsz x this)
  clear hA0 hval0
  refine (walk a m c a' n c' R ns W hR hr).mono fun e W' ⟨he, bel⟩ => ?_
  subst he
  exact ⟨_, rfl, _, _, _, [], _, [], hW', trodAll_mk1 (shut_bool Yba.underlying4 _), (trodAll_cons_mk (Below.trod laidOut (by kernel_rfl) (of_decide_eq_true (by kernel_rfl)) k0 bel lt0) (trodAll_cons_mk (Below.trod laidOut (by kernel_rfl) (of_decide_eq_true (by kernel_rfl)) k1 bel lt1) trodAll_mk0)), rfl, bel.frame _, fun h => by cases h⟩

theorem over : Rows.lawS4183BJobsRow.holds Yba.pinned (OpenSpec.ofChange Rows.lawS4183BJobsSpec) :=
  OpenClaim.holds_of_wide 6 Yba.f6 rfl rfl rfl rfl rfl rfl rfl ⟨rfl, rfl, rfl, rfl, rfl⟩ rfl rfl rfl rfl rfl (by kernel_rfl) Yba.func6 (by kernel_rfl)
    (of_decide_eq_true (by kernel_rfl)) (by unfold Func.isWrapper; first | (rw [if_pos (by decide +kernel)]; kernel_rfl) | (rw [if_neg (by decide +kernel)]; exact ⟨rfl, rfl⟩))
    (fun os started H enc _ => lifted os started H enc)

/-- ████ THE STATEMENT ████ -/
theorem proved : Rows.LawS4183BJobsSaid := over
end Go.Proofs.Ybulkchpk.lawS4183BJobs
