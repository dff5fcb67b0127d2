/-
  A proof of 'Rows.LawS4183BFieldsSaid'. The frame is after the kit's shells (a law over slices), with the form's own reach.
-/
import Derived.Test.YbulkchpkRows
import Derived.WalkKit
import Derived.ProofKit
import Derived.OpenShut
import Derived.ShutString
import Derived.ChangeOld
import Derived.Below
import Derived.SizedLaws
import Derived.Test.YbulkchpkOpen
namespace Go.Proofs.Ybulkchpk.lawS4183BFields
open Go.ChangeShapes Go.WideShapes Go.ChangeAt Go.RowKit

theorem own : ownKnob Yba.prog.godebug = none := by kernel_rfl
theorem laidOut : laidOutB Yba.prog = true := by kernel_rfl

/-! ### STEP 1: THE WALK -/
theorem nodeOf_lt (i6 : Int) (n : Nat) (h : ¬ nodeOf i6 n < 0) : ∃ j : Nat, nodeOf i6 n = (j : Int) ∧ j < n := by
  unfold nodeOf at h ⊢
  by_cases h1 : i6 < 0
  · rw [if_pos h1] at h; omega
  · rw [if_neg h1] at h ⊢
    by_cases h2 : n = 0
    · rw [if_pos h2] at h; omega
    · rw [if_neg h2] at h ⊢
      have hp : (0 : Int) < (n : Int) := by omega
      have hlt := Int.emod_lt_of_pos i6 hp
      have hge := Int.emod_nonneg i6 (show (n : Int) ≠ 0 by omega)
      exact ⟨(i6 % (n : Int)).toNat, by omega, by omega⟩

set_option maxRecDepth 100000 in
theorem walk (s0 s1 s2 : ByteArray) (i3 : Int) (f4 : Nat) (i5 i6 : Int) (b7 : Bool) (a : Option Addr) (n c : Nat) (ns : Nat → ByteArray) (w : World) (hs : i6 ≤ 9223372036854775807) (hr : ReadsS w a n ns) :
    Calls Yba.prog 5 #[.agg (inV s0 s1 s2 i3 f4 i5 i6 b7), .slice a n c] w fun e w' => e = .returned (.bool true) ∧ Below w.heap.size w w' := by
  by_cases hn : n ≤ 1024
  · by_cases hnd : nodeOf i6 n < 0
    · exact fields_none s0 s1 s2 i3 f4 i5 i6 b7 a n c ns w hn hs hr hnd
    · obtain ⟨j, hj, hjn⟩ := nodeOf_lt i6 n hnd
      exact fields_some s0 s1 s2 i3 f4 i5 i6 b7 a n c ns w hn hs hr j hj hjn
  · have h3 : (1024 : Int) < (n : Int) := by omega
    clear hr hs
    go_enter Yba.func5, Yba.ntmps5
    go_wp2
    go_ret
    exact ⟨rfl, (Below.refl _ _).alloc (Nat.le_refl _) _⟩

/-! ### THE ROW's STEP -/
set_option maxRecDepth 100000 in
theorem lifted (os : Os) (started : os.Started) (H : Type) (enc : TypeId × Value → H) :
    ReturnsInHanded {} Yba.checked os 5 .any (Rows.lawS4183BFieldsSpec.pre6 enc Yba.prog Yba.f5 Rows.lawS4183BFieldsRow.domain false) (Rows.lawS4183BFieldsSpec.post enc Yba.prog Yba.f5 false true false false) := by
  refine returnsInHanded_of_change_sized (C := Yba.checked) own started (by kernel_rfl) Yba.func5
    (ChangeSpec.witness6 (enc := enc) (C := Yba.checked) false ⟨#[], #[.agg #[.string ⟨#[]⟩, .string ⟨#[]⟩, .string ⟨#[]⟩, .int .i64 0, .float .f64 0, .int .i64 0, .int .i64 0, .bool false], .slice none 0 0], []⟩ 8 (by kernel_rfl) (by kernel_rfl) (by kernel_rfl) (by kernel_rfl)) ?_
  intro W base args ds gs before hval0 hW hcnd hsz0 _
  have hval : ∀ (j : Nat) t v, Yba.f5.params[j]? = some t → args[j]? = some v → Value.okWide Yba.prog W .any base t v := hval0
  have hsz : (DataW.weightsEach Yba.prog (Yba.f5.params.toList ++ Rows.lawS4183BFieldsSpec.plain.varTypes Yba.prog) (ds ++ gs)).all (· ≤ reachBytes) = true := hsz0
  have hW' := hW
  obtain ⟨p, q, hA0, hV, rfl, hfz, hnd⟩ := hW
  have hA : DataW.TrodAll enc Yba.prog W 0 (fun _ => true) true Yba.f5.params.toList args.toList ds p := hA0
  rw [Yba.params5] at hA hval hsz
  obtain ⟨v0, vs0, d0, ds0, p0, q0, hargs, rfl, rfl, h0, r0⟩ := trodAll_cons hA
  obtain ⟨v1, vs1, d1, ds1, p1, q1, rfl, rfl, rfl, h1, r1⟩ := trodAll_cons r0
  obtain ⟨rfl, rfl, rfl⟩ := trodAll_nil r1
  obtain rfl : args = #[v0, v1] := by cases args; simp_all
  obtain ⟨rfl, rfl⟩ := trodVars_none hV
  obtain ⟨cs, rfl, hcs⟩ := okWide_struct Yba.underlying38 (hval 0 38 v0 rfl rfl)
  obtain ⟨a, n, c, rfl⟩ := okWide_slice Yba.underlying39 (hval 1 39 v1 rfl rfl)
  have k0 := h0
  have lt0 : ∀ x ∈ p0, x.block < W.heap.size := by obtain ⟨m, hm⟩ := k0; exact DataW.trod_lt m _ _ _ hm
  have k1 := h1
  have lt1 : ∀ x ∈ p1, x.block < W.heap.size := by obtain ⟨m, hm⟩ := k1; exact DataW.trod_lt m _ _ _ hm
  obtain ⟨s0, s1, s2, i3, f4, i5, i6, b7, hcs', hs⟩ : ∃ s0 s1 s2 i3 f4 i5 i6 b7, cs.toList = (inV s0 s1 s2 i3 f4 i5 i6 b7).toList ∧ i6 ≤ 9223372036854775807 := by
    obtain ⟨fuel, hf⟩ := h0
    exact rec_shape (by simpa [Value.cells] using hf)
  obtain rfl : cs = inV s0 s1 s2 i3 f4 i5 i6 b7 := Array.toList_inj.1 hcs'
  obtain ⟨ns, hr⟩ := names_shape h1 (fun x hx => by
    have := DataW.weights_mem_each (P := Yba.prog) (ts := [38, 39] ++ Rows.lawS4183BFieldsSpec.plain.varTypes Yba.prog) (ds := [d0, d1] ++ []) (j := 1) rfl rfl x hx
    simpa using List.all_eq_true.1 hsz x this)
  clear hA0 hval0
  refine (walk s0 s1 s2 i3 f4 i5 i6 b7 a n c ns W hs hr).mono fun e W' ⟨he, bel⟩ => ?_
  subst he
  exact ⟨_, rfl, _, _, _, [], _, [], hW', trodAll_mk1 (shut_bool Yba.underlying4 _), (trodAll_cons_mk (Below.trod laidOut (by kernel_rfl) (of_decide_eq_true (by kernel_rfl)) k0 bel lt0) (trodAll_cons_mk (Below.trod laidOut (by kernel_rfl) (of_decide_eq_true (by kernel_rfl)) k1 bel lt1) trodAll_mk0)), rfl, bel.frame _, fun h => by cases h⟩

theorem over : Rows.lawS4183BFieldsRow.holds Yba.pinned (OpenSpec.ofChange Rows.lawS4183BFieldsSpec) :=
  OpenClaim.holds_of_wide 5 Yba.f5 rfl rfl rfl rfl rfl rfl rfl ⟨rfl, rfl, rfl, rfl, rfl⟩ rfl rfl rfl rfl rfl (by kernel_rfl) Yba.func5 (by kernel_rfl)
    (of_decide_eq_true (by kernel_rfl)) (by unfold Func.isWrapper; first | (rw [if_pos (by decide +kernel)]; kernel_rfl) | (rw [if_neg (by decide +kernel)]; exact ⟨rfl, rfl⟩))
    (fun os started H enc _ => lifted os started H enc)

/-- ████ THE STATEMENT ████ -/
theorem proved : Rows.LawS4183BFieldsSaid := over
end Go.Proofs.Ybulkchpk.lawS4183BFields
