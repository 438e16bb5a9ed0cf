/-
  FnBoundStepTable: the shell written by program (proof-skeleton.mjs), its walk filled in.
-/
import Derived.Test.Qxb6605341aModsBound
import Derived.WalkKit
import Derived.ProofKit
import Derived.OpenShut
import Derived.ShutString
namespace Go.Proofs.Qxb6605341aMods.fnBoundStepTable
open Go.ChangeShapes Go.WideShapes Go.ChangeAt Go.RowKit
open Go.ChangeMaps (open_string shut_string)
set_option linter.unusedVariables false      -- a walk need not use every 'w<i>' (that an integer argument fits its kind)

theorem own : ownKnob Trym.prog.godebug = none := by kernel_rfl

/-! ### STEP 1: THE WALK: the Go text returns true. 'Grown w w'': the world has at most new blocks (Derived/RowKit3.lean). Part the cases AHEAD of 'go_enter' where a test parts the walk; take each callee by a contract of your own. -/
theorem walk (a0 : Int) (w0 : (Lit.int .i64 a0).wf = true) (w : World) :
    Calls Trym.prog 4 #[.int .i64 a0] w fun e w' => e = .returned (.bool true) ∧ Grown w w' := by
  have hb := bounds_i64 w0
  by_cases c0 : a0 < 0
  · go_enter Trym.func4, Trym.ntmps4
    go_wp2
    go_ret
    exact ⟨rfl, Grown.refl _⟩
  by_cases c1 : 4611686018427387903 ≤ a0
  · go_enter Trym.func4, Trym.ntmps4
    go_wp2
    go_ret
    exact ⟨rfl, Grown.refl _⟩
  have bk := blk_le a0 (by omega)
  have bl := blk_le (a0 + 1) (by omega)
  have k1 : 1 ≤ blk a0 := bk.1
  have k2 : blk a0 ≤ 36028797018963968 := by omega
  have l1 : 1 ≤ blk (a0 + 1) := bl.1
  have l2 : blk (a0 + 1) ≤ 36028797018963968 := by omega
  have bz := blk_le 0 (by omega)
  have z1 : 1 ≤ blk 0 := bz.1
  have z2 : blk 0 ≤ 1 := by omega
  clear bk bl bz
  by_cases c2 : 0 < a0
  · by_cases c3 : a0 % 131072 = 0
    · have hn := blk_step_new a0 c2 c3
      have d1 : blk (a0 + 1) ≤ blk a0 + 1 := by omega
      have d2 : blk a0 + 1 ≤ blk (a0 + 1) := by omega
      have c4 : (a0 % 131072 == 0) = true := by simp [c3]
      clear c3 hn
      go_enter Trym.func4, Trym.ntmps4
      go_wp2_with (go_at_call 6; refine (bound_w _ (by omega) (by omega) _).mono ?_; rintro e w' ⟨rfl, rfl⟩)
      all_goals go_ret
      all_goals exact ⟨ret_true (by rw [beq_iff_eq]; omega), Grown.refl _⟩
    · have hn := blk_step_old a0 c2 c3
      have d1 : blk (a0 + 1) ≤ blk a0 := by omega
      have d2 : blk a0 ≤ blk (a0 + 1) := by omega
      have c4 : (a0 % 131072 == 0) = false := by simp [c3]
      clear c3 hn
      go_enter Trym.func4, Trym.ntmps4
      go_wp2_with (go_at_call 6; refine (bound_w _ (by omega) (by omega) _).mono ?_; rintro e w' ⟨rfl, rfl⟩)
      all_goals go_ret
      all_goals exact ⟨ret_true (by rw [beq_iff_eq]; omega), Grown.refl _⟩
  · have c3 : a0 ≤ 0 := by omega
    have hn : blk (a0 + 1) = blk a0 := by
      have h00 : a0 = 0 := by omega
      rw [h00]
      exact blk_step_zero
    have d1 : blk (a0 + 1) ≤ blk a0 := by omega
    have d2 : blk a0 ≤ blk (a0 + 1) := by omega
    clear hn
    · go_enter Trym.func4, Trym.ntmps4
      go_wp2_with (go_at_call 6; refine (bound_w _ (by omega) (by omega) _).mono ?_; rintro e w' ⟨rfl, rfl⟩)
      all_goals go_ret
      all_goals exact ⟨ret_true (by rw [beq_iff_eq]; omega), Grown.refl _⟩

/-! ### THE ROW's STEP: WRITTEN OUT: LEAVE IT -/
set_option maxRecDepth 100000 in
theorem lifted (os : Os) (started : os.Started) (H : Type) (enc : TypeId × Value → H) :
    ReturnsInHanded {} Trym.checked os 4 .any (Rows.fnBoundStepTableSpec.pre6 enc Trym.prog Trym.f4 Rows.fnBoundStepTableRow.domain false) (Rows.fnBoundStepTableSpec.post enc Trym.prog Trym.f4 false true false false) := by
  refine returnsInHanded_of_change (C := Trym.checked) own started (by kernel_rfl) Trym.func4
    (ChangeSpec.witness6 (enc := enc) (C := Trym.checked) false ⟨#[], #[.int .i64 0], []⟩ 8 (by kernel_rfl) (by kernel_rfl) (by kernel_rfl) (by kernel_rfl)) ?_
  intro W base args ds gs before hval0 hW hcnd _
  have hval : ∀ (j : Nat) t v, Trym.f4.params[j]? = some t → args[j]? = some v → Value.okWide Trym.prog W .any base t v := hval0
  have hW' := hW
  obtain ⟨p, q, hA0, hV, rfl, hfz, hnd⟩ := hW
  have hA : DataW.TrodAll enc Trym.prog W 0 (fun _ => true) true Trym.f4.params.toList args.toList ds p := hA0
  rw [Trym.params4] at hA hval
  obtain ⟨v0, vs0, d0, ds0, p0, q0, hargs, rfl, rfl, h0, r0⟩ := trodAll_cons hA
  obtain ⟨rfl, rfl, rfl⟩ := trodAll_nil r0
  obtain rfl : args = #[v0] := by cases args; simp_all
  obtain ⟨rfl, rfl⟩ := trodVars_none hV
  obtain ⟨a0, rfl, rfl, rfl, w0⟩ := open_int Trym.underlying3 (hval 0 3 v0 rfl rfl) h0
  clear hA0 hval0
  simp only [List.append_nil] at hW'
  refine (walk a0 w0 W).mono fun e W' ⟨he, hg⟩ => ?_
  subst he
  exact ⟨_, rfl, post_of_same (pa := []) (pv := []) hW' (fun _ _ _ => (trodAll_cons_mk (shut_bool Trym.underlying4 _) trodAll_mk0)) (fun sp _ => (trodAll_cons_mk (shut_int Trym.underlying3 w0) trodAll_mk0)) (fun _ _ => rfl) rfl
    (hg.frame _) hg.2.1 (ok_one (by kernel_rfl) rfl (okWide_bool_mk Trym.underlying4 _))⟩

theorem over : Rows.fnBoundStepTableRow.holds Trym.pinned (OpenSpec.ofChange Rows.fnBoundStepTableSpec) :=
  OpenClaim.holds_of_wide 4 Trym.f4 rfl rfl rfl rfl rfl rfl rfl ⟨rfl, rfl, rfl, rfl, rfl⟩ rfl rfl rfl rfl rfl (by kernel_rfl) Trym.func4 (by kernel_rfl)
    (of_decide_eq_true (by kernel_rfl)) (by unfold Func.isWrapper; first | (rw [if_pos (by decide +kernel)]; kernel_rfl) | (rw [if_neg (by decide +kernel)]; exact ⟨rfl, rfl⟩))
    (fun os started H enc _ => lifted os started H enc)

/-- ████ THE STATEMENT ████ -/
theorem proved : Rows.FnBoundStepTableSaid :=
  over
end Go.Proofs.Qxb6605341aMods.fnBoundStepTable
namespace Go.Proofs.Qxb6605341aMods
theorem fnBoundStepTable_proved : Rows.FnBoundStepTableSaid := fnBoundStepTable.proved
end Go.Proofs.Qxb6605341aMods
