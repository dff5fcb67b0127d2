/-
  A proof of 'Rows.LawS4184BCommuteAssocSaid'. The frame is the kit's shell for this function; the walk is this seat's.
-/
import Derived.Test.YbulkchpyRows
import Derived.WalkKit
import Derived.ProofKit
import Derived.OpenShut
import Derived.ShutString
namespace Go.Proofs.Ybulkchpy.lawS4184BCommuteAssoc
open Go.ChangeShapes Go.WideShapes Go.ChangeAt Go.RowKit
open Go.ChangeMaps (open_string shut_string)
set_option linter.unusedVariables false      -- a walk need not use every 'w<i>' (that an integer argument fits its kind)

theorem own : ownKnob Yba.prog.godebug = none := by kernel_rfl

/-! ### THE PLAIN LAW: the lower of two fan-outs, 0 for none -/
def lf (a b : Int) : Int := if a = 0 then b else if b ≠ 0 ∧ b < a then b else a
theorem lf_comm (a b : Int) : lf a b = lf b a := by unfold lf; repeat' split
                                                    all_goals omega
theorem lf_zero (a : Int) : lf a 0 = a := by unfold lf; repeat' split
                                             all_goals omega
theorem zero_lf (a : Int) : lf 0 a = a := by unfold lf; repeat' split
                                             all_goals omega
theorem lf_assoc (a b c : Int) : lf (lf a b) c = lf a (lf b c) := by
  unfold lf
  by_cases h1 : a = 0 <;> by_cases h2 : b = 0 <;> by_cases h3 : c = 0 <;> by_cases h4 : b < a <;> by_cases h5 : c < b <;> by_cases h6 : c < a <;> simp [h1, h2, h3, h4, h5, h6] <;> omega

theorem lf_any (a b : Int) (w : World) : Calls Yba.prog 8 #[.int .i64 a, .int .i64 b] w fun e w' => e = .returned (.int .i64 (lf a b)) ∧ w' = w := by
  by_cases h1 : a = 0
  · have e : lf a b = b := by simp [lf, h1]
    rw [e]
    subst h1
    go_enter Yba.func8, Yba.ntmps8
    go_wp2
    go_ret
    exact ⟨rfl, rfl⟩
  · have h1' : (a == 0) = false := by simpa using h1
    by_cases h2 : b = 0
    · have e : lf a b = a := by simp [lf, h1, h2]
      rw [e]
      subst h2
      clear e
      go_enter Yba.func8, Yba.ntmps8
      go_wp2
      go_ret
      exact ⟨rfl, rfl⟩
    · have h2' : (b != 0) = true := by simpa using h2
      by_cases h3 : b < a
      · have e : lf a b = b := by simp [lf, h1, h2, h3]
        rw [e]
        clear e
        go_enter Yba.func8, Yba.ntmps8
        go_wp2
        go_ret
        exact ⟨rfl, rfl⟩
      · have e : lf a b = a := by simp [lf, h1, h2, h3]
        rw [e]
        clear e
        go_enter Yba.func8, Yba.ntmps8
        go_wp2
        go_ret
        exact ⟨rfl, rfl⟩

/-! ### STEP 1: THE WALK -/
theorem walk (a0 : Int) (a1 : Int) (a2 : Int) (w0 : (Lit.int .i64 a0).wf = true) (w1 : (Lit.int .i64 a1).wf = true) (w2 : (Lit.int .i64 a2).wf = true) (w : World) :
    Calls Yba.prog 5 #[.int .i64 a0, .int .i64 a1, .int .i64 a2] w fun e w' => e = .returned (.bool true) ∧ Grown w w' := by
  have t1 : (lf a0 a1 != lf a1 a0) = false := by rw [lf_comm]; simp
  have t2 : (lf a0 0 != a0) = false := by rw [lf_zero]; simp
  have t3 : (lf 0 a0 != a0) = false := by rw [zero_lf]; simp
  have t4 : (lf (lf a0 a1) a2 == lf a0 (lf a1 a2)) = true := by rw [lf_assoc]; simp
  go_enter Yba.func5, Yba.ntmps5
  go_wp2_with (go_at_call 8; refine (lf_any _ _ _).mono ?_; rintro e w' ⟨rfl, rfl⟩)
  go_ret
  exact ⟨by simp, by repeat (first | exact Grown.refl _ | apply Grown.drew | apply Grown.alloc)⟩

/-! ### THE ROW's STEP: WRITTEN OUT: LEAVE IT -/
set_option maxRecDepth 100000 in
theorem lifted (os : Os) (started : os.Started) (H : Type) (enc : TypeId × Value → H) :
    ReturnsInHanded {} Yba.checked os 5 .any (Rows.lawS4184BCommuteAssocSpec.pre6 enc Yba.prog Yba.f5 Rows.lawS4184BCommuteAssocRow.domain false) (Rows.lawS4184BCommuteAssocSpec.post enc Yba.prog Yba.f5 false true false false) := by
  refine returnsInHanded_of_change (C := Yba.checked) own started (by kernel_rfl) Yba.func5
    (ChangeSpec.witness6 (enc := enc) (C := Yba.checked) false ⟨#[], #[.int .i64 0, .int .i64 0, .int .i64 0], []⟩ 8 (by kernel_rfl) (by kernel_rfl) (by kernel_rfl) (by kernel_rfl)) ?_
  intro W base args ds gs before hval0 hW hcnd _
  have hval : ∀ (j : Nat) t v, Yba.f5.params[j]? = some t → args[j]? = some v → Value.okWide Yba.prog W .any base t v := hval0
  have hW' := hW
  obtain ⟨p, q, hA0, hV, rfl, hfz, hnd⟩ := hW
  have hA : DataW.TrodAll enc Yba.prog W 0 (fun _ => true) true Yba.f5.params.toList args.toList ds p := hA0
  rw [Yba.params5] at hA hval
  obtain ⟨v0, vs0, d0, ds0, p0, q0, hargs, rfl, rfl, h0, r0⟩ := trodAll_cons hA
  obtain ⟨v1, vs1, d1, ds1, p1, q1, rfl, rfl, rfl, h1, r1⟩ := trodAll_cons r0
  obtain ⟨v2, vs2, d2, ds2, p2, q2, rfl, rfl, rfl, h2, r2⟩ := trodAll_cons r1
  obtain ⟨rfl, rfl, rfl⟩ := trodAll_nil r2
  obtain rfl : args = #[v0, v1, v2] := by cases args; simp_all
  obtain ⟨rfl, rfl⟩ := trodVars_none hV
  obtain ⟨a0, rfl, rfl, rfl, w0⟩ := open_int Yba.underlying3 (hval 0 3 v0 rfl rfl) h0
  obtain ⟨a1, rfl, rfl, rfl, w1⟩ := open_int Yba.underlying3 (hval 1 3 v1 rfl rfl) h1
  obtain ⟨a2, rfl, rfl, rfl, w2⟩ := open_int Yba.underlying3 (hval 2 3 v2 rfl rfl) h2
  clear hA0 hval0
  simp only [List.append_nil] at hW'
  refine (walk a0 a1 a2 w0 w1 w2 W).mono fun e W' ⟨he, hg⟩ => ?_
  subst he
  exact ⟨_, rfl, post_of_same (pa := []) (pv := []) hW' (fun _ _ _ => (trodAll_cons_mk (shut_bool Yba.underlying4 _) trodAll_mk0)) (fun sp _ => (trodAll_cons_mk (shut_int Yba.underlying3 w0) (trodAll_cons_mk (shut_int Yba.underlying3 w1) (trodAll_cons_mk (shut_int Yba.underlying3 w2) trodAll_mk0)))) (fun _ _ => rfl) rfl
    (hg.frame _) hg.2.1 (ok_one (by kernel_rfl) rfl (okWide_bool_mk Yba.underlying4 _))⟩

theorem over : Rows.lawS4184BCommuteAssocRow.holds Yba.pinned (OpenSpec.ofChange Rows.lawS4184BCommuteAssocSpec) :=
  OpenClaim.holds_of_wide 5 Yba.f5 rfl rfl rfl rfl rfl rfl rfl ⟨rfl, rfl, rfl, rfl, rfl⟩ rfl rfl rfl rfl rfl (by kernel_rfl) Yba.func5 (by kernel_rfl)
    (of_decide_eq_true (by kernel_rfl)) (by unfold Func.isWrapper; first | (rw [if_pos (by decide +kernel)]; kernel_rfl) | (rw [if_neg (by decide +kernel)]; exact ⟨rfl, rfl⟩))
    (fun os started H enc _ => lifted os started H enc)

/-- ████ THE STATEMENT ████ -/
theorem proved : Rows.LawS4184BCommuteAssocSaid :=
  over
end Go.Proofs.Ybulkchpy.lawS4184BCommuteAssoc
