/-
  THE PROOF OF 'Rows.FnCharCopyIsIndependentSaid', typed over the shell that the seat gives for it: the walk is ours, the row's step is the shell's.
-/
import Derived.Test.YoebfwRows
import Derived.WalkKit
import Derived.ProofKit
import Derived.OpenShut
import Derived.ShutString
import Derived.Test.YoebfwChar
namespace Go.Proofs.Yoebfw.fnCharCopyIsIndependent
open Go.ChangeShapes Go.WideShapes Go.ChangeAt Go.RowKit
open Go.ChangeMaps (open_string shut_string)
set_option linter.unusedVariables false      -- a walk need not use every 'w<i>' (that an integer argument fits its kind)

theorem own : ownKnob Ebfg.prog.godebug = none := by kernel_rfl

/-! ### STEP 1: THE WALK: the Go text returns true. 'Grown w w'': the world has at most new blocks (Derived/RowKit3.lean). Part the cases AHEAD of 'go_enter' where a test parts the walk; take each callee by a contract of your own. -/
theorem walk (a0 : Int) (w0 : (Lit.int .i32 a0).wf = true) (w : World) :
    Calls Ebfg.prog 5 #[.int .i32 a0] w fun e w' => e = .returned (.bool true) ∧ Grown w w' := by
  have m1 := m_equals
  have m2 := m_copy
  have hne : (bits .xor .i32 a0 1 == a0) = false := by simpa using xor_one_ne a0
  have hne' : (a0 == bits .xor .i32 a0 1) = false := by simpa using fun e => xor_one_ne a0 e.symm
  go_enter Ebfg.func5, Ebfg.ntmps5
  go_wp2_with fail
  refine (copy_char _ a0 _ (by simp [go_sem])).mono ?_
  rintro e w' ⟨rfl, rfl⟩
  go_wp2_with fail
  refine (equals_char _ _ a0 a0 _ (by simp [go_sem]) (by simp [go_sem])).mono ?_
  rintro e w' ⟨rfl, n1, rfl⟩
  go_wp2_with fail
  refine (equals_char _ _ a0 (bits .xor .i32 a0 1) _ (by simp [go_sem]) (by simp [go_sem])).mono ?_
  rintro e w' ⟨rfl, n2, rfl⟩
  go_wp2_with fail
  refine (equals_char _ _ (bits .xor .i32 a0 1) a0 _ (by simp [go_sem]) (by simp [go_sem])).mono ?_
  rintro e w' ⟨rfl, n3, rfl⟩
  go_wp2_with fail
  refine (copy_char _ a0 _ (by simp [go_sem])).mono ?_
  rintro e w' ⟨rfl, rfl⟩
  go_wp2_with fail
  refine (equals_char _ _ a0 a0 _ (by simp [go_sem]) (by simp [go_sem])).mono ?_
  rintro e w' ⟨rfl, n4, rfl⟩
  go_wp2_with fail
  refine (equals_char _ _ a0 a0 _ (by simp [go_sem]) (by simp [go_sem])).mono ?_
  rintro e w' ⟨rfl, n5, rfl⟩
  go_wp2_with fail
  refine (equals_char _ _ a0 a0 _ (by simp [go_sem]) (by simp [go_sem])).mono ?_
  rintro e w' ⟨rfl, n6, rfl⟩
  go_wp2_with fail
  go_ret
  exact ⟨rfl, by repeat (first | exact Grown.refl _ | apply Grown.drew | apply grown_drewN | apply Grown.alloc)⟩

/-! ### THE ROW's STEP: WRITTEN OUT: LEAVE IT -/
set_option maxRecDepth 100000 in
theorem lifted (os : Os) (started : os.Started) (H : Type) (enc : TypeId × Value → H) :
    ReturnsInHanded {} Ebfg.checked os 5 .any (Rows.fnCharCopyIsIndependentSpec.pre6 enc Ebfg.prog Ebfg.f5 Rows.fnCharCopyIsIndependentRow.domain false) (Rows.fnCharCopyIsIndependentSpec.post enc Ebfg.prog Ebfg.f5 false true false false) := by
  refine returnsInHanded_of_change (C := Ebfg.checked) own started (by kernel_rfl) Ebfg.func5
    (ChangeSpec.witness6 (enc := enc) (C := Ebfg.checked) false ⟨#[], #[.int .i32 0], []⟩ 8 (by kernel_rfl) (by kernel_rfl) (by kernel_rfl) (by kernel_rfl)) ?_
  intro W base args ds gs before hval0 hW hcnd _
  have hval : ∀ (j : Nat) t v, Ebfg.f5.params[j]? = some t → args[j]? = some v → Value.okWide Ebfg.prog W .any base t v := hval0
  have hW' := hW
  obtain ⟨p, q, hA0, hV, rfl, hfz, hnd⟩ := hW
  have hA : DataW.TrodAll enc Ebfg.prog W 0 (fun _ => true) true Ebfg.f5.params.toList args.toList ds p := hA0
  rw [Ebfg.params5] at hA hval
  obtain ⟨v0, vs0, d0, ds0, p0, q0, hargs, rfl, rfl, h0, r0⟩ := trodAll_cons hA
  obtain ⟨rfl, rfl, rfl⟩ := trodAll_nil r0
  obtain rfl : args = #[v0] := by cases args; simp_all
  obtain ⟨rfl, rfl⟩ := trodVars_none hV
  obtain ⟨a0, rfl, rfl, rfl, w0⟩ := open_int Ebfg.underlying21 (hval 0 21 v0 rfl rfl) h0
  clear hA0 hval0
  simp only [List.append_nil] at hW'
  refine (walk a0 w0 W).mono fun e W' ⟨he, hg⟩ => ?_
  subst he
  exact ⟨_, rfl, post_of_same (pa := []) (pv := []) hW' (fun _ _ _ => (trodAll_cons_mk (shut_bool Ebfg.underlying4 _) trodAll_mk0)) (fun sp _ => (trodAll_cons_mk (shut_int Ebfg.underlying21 w0) trodAll_mk0)) (fun _ _ => rfl) rfl
    (hg.frame _) hg.2.1 (ok_one (by kernel_rfl) rfl (okWide_bool_mk Ebfg.underlying4 _))⟩

theorem over : Rows.fnCharCopyIsIndependentRow.holds Ebfg.pinned (OpenSpec.ofChange Rows.fnCharCopyIsIndependentSpec) :=
  OpenClaim.holds_of_wide 5 Ebfg.f5 rfl rfl rfl rfl rfl rfl rfl ⟨rfl, rfl, rfl, rfl, rfl⟩ rfl rfl rfl rfl rfl (by kernel_rfl) Ebfg.func5 (by kernel_rfl)
    (of_decide_eq_true (by kernel_rfl)) (by unfold Func.isWrapper; first | (rw [if_pos (by decide +kernel)]; kernel_rfl) | (rw [if_neg (by decide +kernel)]; exact ⟨rfl, rfl⟩))
    (fun os started H enc _ => lifted os started H enc)

/-- ████ THE STATEMENT ████ -/
theorem proved : Rows.FnCharCopyIsIndependentSaid :=
  over
end Go.Proofs.Yoebfw.fnCharCopyIsIndependent
