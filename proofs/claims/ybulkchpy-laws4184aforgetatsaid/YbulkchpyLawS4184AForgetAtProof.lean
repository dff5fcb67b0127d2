/-
  A proof of 'Rows.LawS4184AForgetAtSaid'. The frame is the kit's shell for this function; the walk is this seat's.
-/
import Derived.Test.YbulkchpyRows
import Derived.WalkKit
import Derived.ProofKit
import Derived.OpenShut
import Derived.ShutString
import Derived.Deep.QuietTactic
import Derived.BigQuiet
import Derived.Laws.BitsAllLaws
namespace Go.Proofs.Ybulkchpy.lawS4184AForgetAt
open Go.ChangeShapes Go.WideShapes Go.ChangeAt Go.RowKit
open Go.ChangeMaps (open_string shut_string)
set_option linter.unusedVariables false      -- a walk need not use every 'w<i>' (that an integer argument fits its kind)

theorem own : ownKnob Yba.prog.godebug = none := by kernel_rfl

/-! ### THE PLAIN LAW: a sum that stops at the greatest int64 -/
def lat (t ms : Int) : Int := if 9223372036854775807 - ms < t then 9223372036854775807 else t + ms
theorem lat_hi (t ms : Int) (h : 9223372036854775807 - ms < t) : 9223372036854775807 = lat t ms := by unfold lat; rw [if_pos h]
theorem lat_lo (t ms : Int) (h : ¬ 9223372036854775807 - ms < t) : t + ms = lat t ms := by unfold lat; rw [if_neg h]
theorem lat_bd (t ms : Int) (h0 : 0 ≤ ms) (h1 : -9223372036854775808 ≤ t) : -9223372036854775808 ≤ lat t ms ∧ lat t ms ≤ 9223372036854775807 := by unfold lat; split <;> omega
theorem ret_int {k : IntKind} {a b : Int} (h : a = b) : Ending.returned (.int k a) = .returned (.int k b) := by rw [h]

set_option maxHeartbeats 400000 in
theorem later_any (t ms : Int) (ht : -9223372036854775808 ≤ t) (ht' : t ≤ 9223372036854775807) (hm : 0 ≤ ms) (hm' : ms ≤ 9223372036854775807) (w : World) :
    Calls Yba.prog 10 #[.int .i64 t, .int .i64 ms] w fun e w' => e = .returned (.int .i64 (lat t ms)) ∧ w' = w := by
  by_cases h : 9223372036854775807 - ms < t
  · have H := lat_hi t ms h
    rw [← H]
    clear H
    go_enter Yba.func10, Yba.ntmps10
    go_wp2
    go_ret
    exact ⟨rfl, rfl⟩
  · have H := lat_lo t ms h
    rw [← H]
    clear H
    go_enter Yba.func10, Yba.ntmps10
    go_wp2
    go_ret
    exact ⟨rfl, rfl⟩

theorem sat_hi (t ms : Int) (h : 9223372036854775807 - ms < t) (ht' : t ≤ 9223372036854775807) (hm' : ms ≤ 9223372036854775807) : wrap64 (t + ms) < t := by
  unfold wrap64; omega
set_option maxHeartbeats 400000 in
theorem sat_any (t ms : Int) (ht : -9223372036854775808 ≤ t) (ht' : t ≤ 9223372036854775807) (hm : 0 ≤ ms) (hm' : ms ≤ 9223372036854775807) (w : World) :
    Calls Yba.prog 7 #[.int .i64 t, .int .i64 ms] w fun e w' => e = .returned (.int .i64 (lat t ms)) ∧ w' = w := by
  by_cases h : 9223372036854775807 - ms < t
  · have H := lat_hi t ms h
    rw [← H]
    clear H
    have hs := sat_hi t ms h ht' hm'
    go_enter Yba.func7, Yba.ntmps7
    go_wp2
    go_ret
    exact ⟨rfl, rfl⟩
  · have H := lat_lo t ms h
    rw [← H]
    clear H
    go_enter Yba.func7, Yba.ntmps7
    go_wp2
    go_ret
    exact ⟨rfl, rfl⟩

set_option maxHeartbeats 400000 in
theorem forget_none (bd bm : Nat) (w : World) (hf : w.cell? ⟨bd, 13, none⟩ = some (.int .i64 0)) :
    Calls Yba.prog 6 #[.pointer (some ⟨bd, 0, none⟩), .pointer (some ⟨bm, 0, none⟩)] w fun e w' => e = .returned (.tuple #[.int .i64 0, .bool false]) ∧ w' = w := by
  go_enter Yba.func6, Yba.ntmps6
  go_wp2
  go_ret2
  exact ⟨rfl, rfl⟩
set_option maxHeartbeats 400000 in
theorem forget_some (bd bm : Nat) (h t f : Int) (hz : (f == 0) = false) (bh : -9223372036854775808 ≤ h) (bh' : h ≤ 9223372036854775807) (bt : 0 ≤ t) (bt' : t ≤ 9223372036854775807) (bf : 0 ≤ f) (bf' : f ≤ 9223372036854775807)
    (w : World) (hf : w.cell? ⟨bd, 13, none⟩ = some (.int .i64 f)) (hh : w.cell? ⟨bm, 15, none⟩ = some (.int .i64 h)) (ht : w.cell? ⟨bm, 1, none⟩ = some (.int .i64 t)) :
    Calls Yba.prog 6 #[.pointer (some ⟨bd, 0, none⟩), .pointer (some ⟨bm, 0, none⟩)] w fun e w' => e = .returned (.tuple #[.int .i64 (lat (lat h t) f), .bool true]) ∧ ∃ n, w' = w.drewN n := by
  obtain ⟨l1, l2⟩ := lat_bd h t bt bh
  go_enter Yba.func6, Yba.ntmps6
  go_wp2
  go_quiet ((go_at_call 10; exact Calls.quiet_of_same (later_any _ _ (by assumption) (by assumption) (by assumption) (by assumption) _)))
  go_wp2
  go_ret2
  exact ⟨rfl, _, rfl⟩

theorem i64_not_neg (a : Int) (h0 : a < 0) (h1 : -9223372036854775808 ≤ a) : bits .xor .i64 (-1) a = -1 - a := by
  show IntKind.i64.wrap ((BitVec.ofInt 64 (-1) ^^^ BitVec.ofInt 64 a).toNat : Int) = _
  have h2 : BitVec.ofInt 64 (-1) = BitVec.allOnes 64 := by decide
  rw [h2, BitVec.allOnes_xor, BitVec.toNat_not, BitVec.toNat_ofInt]
  simp [IntKind.wrap, IntKind.bits, IntKind.signed]
  omega

/-! ### STEP 1: THE WALK -/
set_option maxHeartbeats 1000000 in
theorem walk (a0 : Int) (a1 : Int) (a2 : Int) (w0 : (Lit.int .i64 a0).wf = true) (w1 : (Lit.int .i64 a1).wf = true) (w2 : (Lit.int .i64 a2).wf = true) (w : World) :
    Calls Yba.prog 3 #[.int .i64 a0, .int .i64 a1, .int .i64 a2] w fun e w' => e = .returned (.bool true) ∧ Grown w w' := by
  obtain ⟨b0, b0'⟩ := bounds_i64 w0
  obtain ⟨b1, b1'⟩ := bounds_i64 w1
  obtain ⟨b2, b2'⟩ := bounds_i64 w2
  clear w0 w1 w2
  by_cases c1 : a1 < 0
  all_goals by_cases c2 : a2 < 0
  · have e1 := i64_not_neg a1 c1 b1
    have e2 := i64_not_neg a2 c2 b2
    by_cases hz : (-1 - a2) = 0
    · obtain rfl : a2 = -1 := by omega
      clear hz c2 b2 b2'
      go_enter Yba.func3, Yba.ntmps3
      go_wp2_with fail
      refine (forget_none _ _ _ (by go_simp)).mono ?_
      rintro e w' ⟨rfl, rfl⟩
      go_wp2
      go_ret
      exact ⟨rfl, by repeat (first | exact Grown.refl _ | apply Grown.drew | apply Grown.alloc)⟩
    · have hz' : ((-1 - a2) == 0) = false := by simpa using hz
      have l0 := lat_bd a0 (-1 - a1) (by omega) b0
      have l1 : (lat (lat a0 (-1 - a1)) (-1 - a2) == lat (lat a0 (-1 - a1)) (-1 - a2)) = true := by simp
      go_enter Yba.func3, Yba.ntmps3
      go_wp2_with fail
      refine (forget_some _ _ a0 (-1 - a1) (-1 - a2) hz' b0 b0' (by omega) (by omega) (by omega) (by omega) _ (by go_simp) (by go_simp) (by go_simp)).mono ?_
      rintro e w' ⟨rfl, n, rfl⟩
      go_wp2_with fail
      refine (sat_any a0 (-1 - a1) b0 b0' (by omega) (by omega) _).mono ?_
      rintro e w' ⟨rfl, rfl⟩
      go_wp2_with fail
      refine (sat_any _ (-1 - a2) l0.1 l0.2 (by omega) (by omega) _).mono ?_
      rintro e w' ⟨rfl, rfl⟩
      go_wp2
      go_ret
      exact ⟨by simp, by repeat (first | exact Grown.refl _ | apply Grown.drewN | apply Grown.drew | apply Grown.alloc)⟩
  · have e1 := i64_not_neg a1 c1 b1
    by_cases hz : a2 = 0
    · obtain rfl : a2 = 0 := hz
      clear c2 b2 b2'
      go_enter Yba.func3, Yba.ntmps3
      go_wp2_with fail
      refine (forget_none _ _ _ (by go_simp)).mono ?_
      rintro e w' ⟨rfl, rfl⟩
      go_wp2
      go_ret
      exact ⟨rfl, by repeat (first | exact Grown.refl _ | apply Grown.drew | apply Grown.alloc)⟩
    · have hz' : (a2 == 0) = false := by simpa using hz
      have l0 := lat_bd a0 (-1 - a1) (by omega) b0
      have l1 : (lat (lat a0 (-1 - a1)) a2 == lat (lat a0 (-1 - a1)) a2) = true := by simp
      go_enter Yba.func3, Yba.ntmps3
      go_wp2_with fail
      refine (forget_some _ _ a0 (-1 - a1) a2 hz' b0 b0' (by omega) (by omega) (by omega) (by omega) _ (by go_simp) (by go_simp) (by go_simp)).mono ?_
      rintro e w' ⟨rfl, n, rfl⟩
      go_wp2_with fail
      refine (sat_any a0 (-1 - a1) b0 b0' (by omega) (by omega) _).mono ?_
      rintro e w' ⟨rfl, rfl⟩
      go_wp2_with fail
      refine (sat_any _ a2 l0.1 l0.2 (by omega) (by omega) _).mono ?_
      rintro e w' ⟨rfl, rfl⟩
      go_wp2
      go_ret
      exact ⟨by simp, by repeat (first | exact Grown.refl _ | apply Grown.drewN | apply Grown.drew | apply Grown.alloc)⟩
  · have e2 := i64_not_neg a2 c2 b2
    by_cases hz : (-1 - a2) = 0
    · obtain rfl : a2 = -1 := by omega
      clear hz c2 b2 b2'
      go_enter Yba.func3, Yba.ntmps3
      go_wp2_with fail
      refine (forget_none _ _ _ (by go_simp)).mono ?_
      rintro e w' ⟨rfl, rfl⟩
      go_wp2
      go_ret
      exact ⟨rfl, by repeat (first | exact Grown.refl _ | apply Grown.drew | apply Grown.alloc)⟩
    · have hz' : ((-1 - a2) == 0) = false := by simpa using hz
      have l0 := lat_bd a0 a1 (by omega) b0
      have l1 : (lat (lat a0 a1) (-1 - a2) == lat (lat a0 a1) (-1 - a2)) = true := by simp
      go_enter Yba.func3, Yba.ntmps3
      go_wp2_with fail
      refine (forget_some _ _ a0 a1 (-1 - a2) hz' b0 b0' (by omega) (by omega) (by omega) (by omega) _ (by go_simp) (by go_simp) (by go_simp)).mono ?_
      rintro e w' ⟨rfl, n, rfl⟩
      go_wp2_with fail
      refine (sat_any a0 a1 b0 b0' (by omega) (by omega) _).mono ?_
      rintro e w' ⟨rfl, rfl⟩
      go_wp2_with fail
      refine (sat_any _ (-1 - a2) l0.1 l0.2 (by omega) (by omega) _).mono ?_
      rintro e w' ⟨rfl, rfl⟩
      go_wp2
      go_ret
      exact ⟨by simp, by repeat (first | exact Grown.refl _ | apply Grown.drewN | apply Grown.drew | apply Grown.alloc)⟩
  · by_cases hz : a2 = 0
    · obtain rfl : a2 = 0 := hz
      clear c2 b2 b2'
      go_enter Yba.func3, Yba.ntmps3
      go_wp2_with fail
      refine (forget_none _ _ _ (by go_simp)).mono ?_
      rintro e w' ⟨rfl, rfl⟩
      go_wp2
      go_ret
      exact ⟨rfl, by repeat (first | exact Grown.refl _ | apply Grown.drew | apply Grown.alloc)⟩
    · have hz' : (a2 == 0) = false := by simpa using hz
      have l0 := lat_bd a0 a1 (by omega) b0
      have l1 : (lat (lat a0 a1) a2 == lat (lat a0 a1) a2) = true := by simp
      go_enter Yba.func3, Yba.ntmps3
      go_wp2_with fail
      refine (forget_some _ _ a0 a1 a2 hz' b0 b0' (by omega) (by omega) (by omega) (by omega) _ (by go_simp) (by go_simp) (by go_simp)).mono ?_
      rintro e w' ⟨rfl, n, rfl⟩
      go_wp2_with fail
      refine (sat_any a0 a1 b0 b0' (by omega) (by omega) _).mono ?_
      rintro e w' ⟨rfl, rfl⟩
      go_wp2_with fail
      refine (sat_any _ a2 l0.1 l0.2 (by omega) (by omega) _).mono ?_
      rintro e w' ⟨rfl, rfl⟩
      go_wp2
      go_ret
      exact ⟨by simp, by repeat (first | exact Grown.refl _ | apply Grown.drewN | apply Grown.drew | apply Grown.alloc)⟩

/-! ### THE ROW's STEP: WRITTEN OUT: LEAVE IT -/
set_option maxRecDepth 100000 in
theorem lifted (os : Os) (started : os.Started) (H : Type) (enc : TypeId × Value → H) :
    ReturnsInHanded {} Yba.checked os 3 .any (Rows.lawS4184AForgetAtSpec.pre6 enc Yba.prog Yba.f3 Rows.lawS4184AForgetAtRow.domain false) (Rows.lawS4184AForgetAtSpec.post enc Yba.prog Yba.f3 false true false false) := by
  refine returnsInHanded_of_change (C := Yba.checked) own started (by kernel_rfl) Yba.func3
    (ChangeSpec.witness6 (enc := enc) (C := Yba.checked) false ⟨#[], #[.int .i64 0, .int .i64 0, .int .i64 0], []⟩ 8 (by kernel_rfl) (by kernel_rfl) (by kernel_rfl) (by kernel_rfl)) ?_
  intro W base args ds gs before hval0 hW hcnd _
  have hval : ∀ (j : Nat) t v, Yba.f3.params[j]? = some t → args[j]? = some v → Value.okWide Yba.prog W .any base t v := hval0
  have hW' := hW
  obtain ⟨p, q, hA0, hV, rfl, hfz, hnd⟩ := hW
  have hA : DataW.TrodAll enc Yba.prog W 0 (fun _ => true) true Yba.f3.params.toList args.toList ds p := hA0
  rw [Yba.params3] at hA hval
  obtain ⟨v0, vs0, d0, ds0, p0, q0, hargs, rfl, rfl, h0, r0⟩ := trodAll_cons hA
  obtain ⟨v1, vs1, d1, ds1, p1, q1, rfl, rfl, rfl, h1, r1⟩ := trodAll_cons r0
  obtain ⟨v2, vs2, d2, ds2, p2, q2, rfl, rfl, rfl, h2, r2⟩ := trodAll_cons r1
  obtain ⟨rfl, rfl, rfl⟩ := trodAll_nil r2
  obtain rfl : args = #[v0, v1, v2] := by cases args; simp_all
  obtain ⟨rfl, rfl⟩ := trodVars_none hV
  obtain ⟨a0, rfl, rfl, rfl, w0⟩ := open_int Yba.underlying2 (hval 0 2 v0 rfl rfl) h0
  obtain ⟨a1, rfl, rfl, rfl, w1⟩ := open_int Yba.underlying2 (hval 1 2 v1 rfl rfl) h1
  obtain ⟨a2, rfl, rfl, rfl, w2⟩ := open_int Yba.underlying2 (hval 2 2 v2 rfl rfl) h2
  clear hA0 hval0
  simp only [List.append_nil] at hW'
  refine (walk a0 a1 a2 w0 w1 w2 W).mono fun e W' ⟨he, hg⟩ => ?_
  subst he
  exact ⟨_, rfl, post_of_same (pa := []) (pv := []) hW' (fun _ _ _ => (trodAll_cons_mk (shut_bool Yba.underlying4 _) trodAll_mk0)) (fun sp _ => (trodAll_cons_mk (shut_int Yba.underlying2 w0) (trodAll_cons_mk (shut_int Yba.underlying2 w1) (trodAll_cons_mk (shut_int Yba.underlying2 w2) trodAll_mk0)))) (fun _ _ => rfl) rfl
    (hg.frame _) hg.2.1 (ok_one (by kernel_rfl) rfl (okWide_bool_mk Yba.underlying4 _))⟩

theorem over : Rows.lawS4184AForgetAtRow.holds Yba.pinned (OpenSpec.ofChange Rows.lawS4184AForgetAtSpec) :=
  OpenClaim.holds_of_wide 3 Yba.f3 rfl rfl rfl rfl rfl rfl rfl ⟨rfl, rfl, rfl, rfl, rfl⟩ rfl rfl rfl rfl rfl (by kernel_rfl) Yba.func3 (by kernel_rfl)
    (of_decide_eq_true (by kernel_rfl)) (by unfold Func.isWrapper; first | (rw [if_pos (by decide +kernel)]; kernel_rfl) | (rw [if_neg (by decide +kernel)]; exact ⟨rfl, rfl⟩))
    (fun os started H enc _ => lifted os started H enc)

/-- ████ THE STATEMENT ████ -/
theorem proved : Rows.LawS4184AForgetAtSaid :=
  over
end Go.Proofs.Ybulkchpy.lawS4184AForgetAt
