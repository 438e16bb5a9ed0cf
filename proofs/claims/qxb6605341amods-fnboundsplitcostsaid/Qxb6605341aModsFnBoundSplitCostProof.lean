/-
  FnBoundSplitCost: the shell written by program (proof-skeleton.mjs), its walk filled in.
-/
import Derived.Test.Qxb6605341aModsBound
import Derived.WalkKit
import Derived.ProofKit
import Derived.OpenShut
import Derived.ShutString
namespace Go.Proofs.Qxb6605341aMods.fnBoundSplitCost
open Go.ChangeShapes Go.WideShapes Go.ChangeAt Go.RowKit
open Go.ChangeMaps (open_string shut_string)
set_option linter.unusedVariables false      -- a walk need not use every 'w<i>' (that an integer argument fits its kind)

theorem own : ownKnob Trym.prog.godebug = none := by kernel_rfl

/-! ### THE WAYS, one theorem each -/
theorem way_left (a0 a1 : Int) (w : World) (c0 : 0 ≤ a0) (c1 : 0 ≤ a1) (c2 : a0 ≤ 2305843009213693951) (c3 : a1 ≤ 2305843009213693951) (k1 : 1 ≤ blk a0) (k2 : blk a0 ≤ 36028797018963968) (l1 : 1 ≤ blk a1) (l2 : blk a1 ≤ 36028797018963968) (m1 : 1 ≤ blk (a0 + a1)) (m2 : blk (a0 + a1) ≤ 36028797018963968) (z : (a0 == 0) = true) (d1 : blk a0 + blk a1 ≤ blk (a0 + a1) + 1) (d2 : blk (a0 + a1) + 1 ≤ blk a0 + blk a1) :
    Calls Trym.prog 5 #[.int .i64 a0, .int .i64 a1] w fun e w' => e = .returned (.bool true) ∧ Grown w w' := by
  go_enter Trym.func5, Trym.ntmps5
  go_wp2_with (go_at_call 6; refine (bound_w _ (by omega) (by omega) _).mono ?_; rintro e w' ⟨rfl, rfl⟩)
  all_goals go_ret
  all_goals exact ⟨ret_true (by rw [beq_iff_eq]; omega), Grown.refl _⟩

theorem way_right (a0 a1 : Int) (w : World) (c0 : 0 ≤ a0) (c1 : 0 ≤ a1) (c2 : a0 ≤ 2305843009213693951) (c3 : a1 ≤ 2305843009213693951) (k1 : 1 ≤ blk a0) (k2 : blk a0 ≤ 36028797018963968) (l1 : 1 ≤ blk a1) (l2 : blk a1 ≤ 36028797018963968) (m1 : 1 ≤ blk (a0 + a1)) (m2 : blk (a0 + a1) ≤ 36028797018963968) (y : (a0 == 0) = false) (z : (a1 == 0) = true) (d1 : blk a0 + blk a1 ≤ blk (a0 + a1) + 1) (d2 : blk (a0 + a1) + 1 ≤ blk a0 + blk a1) :
    Calls Trym.prog 5 #[.int .i64 a0, .int .i64 a1] w fun e w' => e = .returned (.bool true) ∧ Grown w w' := by
  go_enter Trym.func5, Trym.ntmps5
  go_wp2_with (go_at_call 6; refine (bound_w _ (by omega) (by omega) _).mono ?_; rintro e w' ⟨rfl, rfl⟩)
  all_goals go_ret
  all_goals exact ⟨ret_true (by rw [beq_iff_eq]; omega), Grown.refl _⟩

theorem way_whole (a0 a1 : Int) (w : World) (c0 : 0 ≤ a0) (c1 : 0 ≤ a1) (c2 : a0 ≤ 2305843009213693951) (c3 : a1 ≤ 2305843009213693951) (k1 : 1 ≤ blk a0) (k2 : blk a0 ≤ 36028797018963968) (l1 : 1 ≤ blk a1) (l2 : blk a1 ≤ 36028797018963968) (m1 : 1 ≤ blk (a0 + a1)) (m2 : blk (a0 + a1) ≤ 36028797018963968) (y : (a0 == 0) = false) (z : (a1 == 0) = false) (r : (a0 % 131072 != 0) = false) (d1 : blk a0 + blk a1 ≤ blk (a0 + a1)) (d2 : blk (a0 + a1) ≤ blk a0 + blk a1) :
    Calls Trym.prog 5 #[.int .i64 a0, .int .i64 a1] w fun e w' => e = .returned (.bool true) ∧ Grown w w' := by
  go_enter Trym.func5, Trym.ntmps5
  go_wp2_with (go_at_call 6; refine (bound_w _ (by omega) (by omega) _).mono ?_; rintro e w' ⟨rfl, rfl⟩)
  all_goals go_ret
  all_goals exact ⟨ret_true (by rw [beq_iff_eq]; omega), Grown.refl _⟩

theorem way_tail (a0 a1 : Int) (w : World) (c0 : 0 ≤ a0) (c1 : 0 ≤ a1) (c2 : a0 ≤ 2305843009213693951) (c3 : a1 ≤ 2305843009213693951) (k1 : 1 ≤ blk a0) (k2 : blk a0 ≤ 36028797018963968) (l1 : 1 ≤ blk a1) (l2 : blk a1 ≤ 36028797018963968) (m1 : 1 ≤ blk (a0 + a1)) (m2 : blk (a0 + a1) ≤ 36028797018963968) (y : (a0 == 0) = false) (z : (a1 == 0) = false) (r : (a0 % 131072 != 0) = true) (r' : (a1 % 131072 != 0) = false) (d1 : blk a0 + blk a1 ≤ blk (a0 + a1)) (d2 : blk (a0 + a1) ≤ blk a0 + blk a1) :
    Calls Trym.prog 5 #[.int .i64 a0, .int .i64 a1] w fun e w' => e = .returned (.bool true) ∧ Grown w w' := by
  go_enter Trym.func5, Trym.ntmps5
  go_wp2_with (go_at_call 6; refine (bound_w _ (by omega) (by omega) _).mono ?_; rintro e w' ⟨rfl, rfl⟩)
  all_goals go_ret
  all_goals exact ⟨ret_true (by rw [beq_iff_eq]; omega), Grown.refl _⟩

theorem way_less (a0 a1 : Int) (w : World) (c0 : 0 ≤ a0) (c1 : 0 ≤ a1) (c2 : a0 ≤ 2305843009213693951) (c3 : a1 ≤ 2305843009213693951) (k1 : 1 ≤ blk a0) (k2 : blk a0 ≤ 36028797018963968) (l1 : 1 ≤ blk a1) (l2 : blk a1 ≤ 36028797018963968) (m1 : 1 ≤ blk (a0 + a1)) (m2 : blk (a0 + a1) ≤ 36028797018963968) (y : (a0 == 0) = false) (z : (a1 == 0) = false) (r : (a0 % 131072 != 0) = true) (r' : (a1 % 131072 != 0) = true) (t : a0 % 131072 + a1 % 131072 ≤ 131072) (d1 : blk a0 + blk a1 ≤ blk (a0 + a1) + 1) (d2 : blk (a0 + a1) + 1 ≤ blk a0 + blk a1) :
    Calls Trym.prog 5 #[.int .i64 a0, .int .i64 a1] w fun e w' => e = .returned (.bool true) ∧ Grown w w' := by
  go_enter Trym.func5, Trym.ntmps5
  go_wp2_with (go_at_call 6; refine (bound_w _ (by omega) (by omega) _).mono ?_; rintro e w' ⟨rfl, rfl⟩)
  all_goals go_ret
  all_goals exact ⟨ret_true (by rw [beq_iff_eq]; omega), Grown.refl _⟩

theorem way_more (a0 a1 : Int) (w : World) (c0 : 0 ≤ a0) (c1 : 0 ≤ a1) (c2 : a0 ≤ 2305843009213693951) (c3 : a1 ≤ 2305843009213693951) (k1 : 1 ≤ blk a0) (k2 : blk a0 ≤ 36028797018963968) (l1 : 1 ≤ blk a1) (l2 : blk a1 ≤ 36028797018963968) (m1 : 1 ≤ blk (a0 + a1)) (m2 : blk (a0 + a1) ≤ 36028797018963968) (y : (a0 == 0) = false) (z : (a1 == 0) = false) (r : (a0 % 131072 != 0) = true) (r' : (a1 % 131072 != 0) = true) (t : 131072 < a0 % 131072 + a1 % 131072) (d1 : blk a0 + blk a1 ≤ blk (a0 + a1)) (d2 : blk (a0 + a1) ≤ blk a0 + blk a1) :
    Calls Trym.prog 5 #[.int .i64 a0, .int .i64 a1] w fun e w' => e = .returned (.bool true) ∧ Grown w w' := by
  go_enter Trym.func5, Trym.ntmps5
  go_wp2_with (go_at_call 6; refine (bound_w _ (by omega) (by omega) _).mono ?_; rintro e w' ⟨rfl, rfl⟩)
  all_goals go_ret
  all_goals exact ⟨ret_true (by rw [beq_iff_eq]; omega), Grown.refl _⟩

/-! ### STEP 1: THE WALK: the Go text returns true. 'Grown w w'': the world has at most new blocks (Derived/RowKit3.lean). Part the cases AHEAD of 'go_enter' where a test parts the walk; take each callee by a contract of your own. -/
theorem walk (a0 : Int) (a1 : Int) (w0 : (Lit.int .i64 a0).wf = true) (w1 : (Lit.int .i64 a1).wf = true) (w : World) :
    Calls Trym.prog 5 #[.int .i64 a0, .int .i64 a1] w fun e w' => e = .returned (.bool true) ∧ Grown w w' := by
  have hb := bounds_i64 w0
  have hb' := bounds_i64 w1
  by_cases c0 : a0 < 0
  · go_enter Trym.func5, Trym.ntmps5
    go_wp2
    go_ret
    exact ⟨rfl, Grown.refl _⟩
  by_cases c1 : a1 < 0
  · go_enter Trym.func5, Trym.ntmps5
    go_wp2
    go_ret
    exact ⟨rfl, Grown.refl _⟩
  by_cases c2 : 2305843009213693951 < a0
  · go_enter Trym.func5, Trym.ntmps5
    go_wp2
    go_ret
    exact ⟨rfl, Grown.refl _⟩
  by_cases c3 : 2305843009213693951 < a1
  · go_enter Trym.func5, Trym.ntmps5
    go_wp2
    go_ret
    exact ⟨rfl, Grown.refl _⟩
  have bk := blk_le a0 (by omega)
  have bl := blk_le a1 (by omega)
  have bm := blk_le (a0 + a1) (by omega)
  have k2 : blk a0 ≤ 36028797018963968 := by omega
  have l2 : blk a1 ≤ 36028797018963968 := by omega
  have m2 : blk (a0 + a1) ≤ 36028797018963968 := by omega
  have k1 := bk.1
  have l1 := bl.1
  have m1 := bm.1
  clear bk bl bm
  by_cases z : a0 = 0
  · have e : blk a0 + blk a1 = blk (a0 + a1) + 1 := by rw [z, blk_zero, Int.zero_add]; omega
    exact way_left a0 a1 w (by omega) (by omega) (by omega) (by omega) k1 k2 l1 l2 m1 m2 (by simp [z]) (by omega) (by omega)
  by_cases y : a1 = 0
  · have e : blk a0 + blk a1 = blk (a0 + a1) + 1 := by rw [y, blk_zero, Int.add_zero]
    exact way_right a0 a1 w (by omega) (by omega) (by omega) (by omega) k1 k2 l1 l2 m1 m2 (by simp [z]) (by simp [y]) (by omega) (by omega)
  by_cases r : a0 % 131072 = 0
  · have e := blk_split_left a0 a1 (by omega) (by omega) r
    exact way_whole a0 a1 w (by omega) (by omega) (by omega) (by omega) k1 k2 l1 l2 m1 m2 (by simp [z]) (by simp [y]) (by simp [r]) (by omega) (by omega)
  by_cases r' : a1 % 131072 = 0
  · have e := blk_split_right a0 a1 (by omega) (by omega) r'
    exact way_tail a0 a1 w (by omega) (by omega) (by omega) (by omega) k1 k2 l1 l2 m1 m2 (by simp [z]) (by simp [y]) (by simp [r]) (by simp [r']) (by omega) (by omega)
  by_cases t : a0 % 131072 + a1 % 131072 ≤ 131072
  · have e := blk_split_less a0 a1 (by omega) (by omega) r r' t
    exact way_less a0 a1 w (by omega) (by omega) (by omega) (by omega) k1 k2 l1 l2 m1 m2 (by simp [z]) (by simp [y]) (by simp [r]) (by simp [r']) t (by omega) (by omega)
  · have e := blk_split_more a0 a1 (by omega) (by omega) (by omega)
    exact way_more a0 a1 w (by omega) (by omega) (by omega) (by omega) k1 k2 l1 l2 m1 m2 (by simp [z]) (by simp [y]) (by simp [r]) (by simp [r']) (by omega) (by omega) (by omega)

/-! ### THE ROW's STEP: WRITTEN OUT: LEAVE IT -/
set_option maxRecDepth 100000 in
theorem lifted (os : Os) (started : os.Started) (H : Type) (enc : TypeId × Value → H) :
    ReturnsInHanded {} Trym.checked os 5 .any (Rows.fnBoundSplitCostSpec.pre6 enc Trym.prog Trym.f5 Rows.fnBoundSplitCostRow.domain false) (Rows.fnBoundSplitCostSpec.post enc Trym.prog Trym.f5 false true false false) := by
  refine returnsInHanded_of_change (C := Trym.checked) own started (by kernel_rfl) Trym.func5
    (ChangeSpec.witness6 (enc := enc) (C := Trym.checked) false ⟨#[], #[.int .i64 0, .int .i64 0], []⟩ 8 (by kernel_rfl) (by kernel_rfl) (by kernel_rfl) (by kernel_rfl)) ?_
  intro W base args ds gs before hval0 hW hcnd _
  have hval : ∀ (j : Nat) t v, Trym.f5.params[j]? = some t → args[j]? = some v → Value.okWide Trym.prog W .any base t v := hval0
  have hW' := hW
  obtain ⟨p, q, hA0, hV, rfl, hfz, hnd⟩ := hW
  have hA : DataW.TrodAll enc Trym.prog W 0 (fun _ => true) true Trym.f5.params.toList args.toList ds p := hA0
  rw [Trym.params5] at hA hval
  obtain ⟨v0, vs0, d0, ds0, p0, q0, hargs, rfl, rfl, h0, r0⟩ := trodAll_cons hA
  obtain ⟨v1, vs1, d1, ds1, p1, q1, rfl, rfl, rfl, h1, r1⟩ := trodAll_cons r0
  obtain ⟨rfl, rfl, rfl⟩ := trodAll_nil r1
  obtain rfl : args = #[v0, v1] := by cases args; simp_all
  obtain ⟨rfl, rfl⟩ := trodVars_none hV
  obtain ⟨a0, rfl, rfl, rfl, w0⟩ := open_int Trym.underlying3 (hval 0 3 v0 rfl rfl) h0
  obtain ⟨a1, rfl, rfl, rfl, w1⟩ := open_int Trym.underlying3 (hval 1 3 v1 rfl rfl) h1
  clear hA0 hval0
  simp only [List.append_nil] at hW'
  refine (walk a0 a1 w0 w1 W).mono fun e W' ⟨he, hg⟩ => ?_
  subst he
  exact ⟨_, rfl, post_of_same (pa := []) (pv := []) hW' (fun _ _ _ => (trodAll_cons_mk (shut_bool Trym.underlying4 _) trodAll_mk0)) (fun sp _ => (trodAll_cons_mk (shut_int Trym.underlying3 w0) (trodAll_cons_mk (shut_int Trym.underlying3 w1) trodAll_mk0))) (fun _ _ => rfl) rfl
    (hg.frame _) hg.2.1 (ok_one (by kernel_rfl) rfl (okWide_bool_mk Trym.underlying4 _))⟩

theorem over : Rows.fnBoundSplitCostRow.holds Trym.pinned (OpenSpec.ofChange Rows.fnBoundSplitCostSpec) :=
  OpenClaim.holds_of_wide 5 Trym.f5 rfl rfl rfl rfl rfl rfl rfl ⟨rfl, rfl, rfl, rfl, rfl⟩ rfl rfl rfl rfl rfl (by kernel_rfl) Trym.func5 (by kernel_rfl)
    (of_decide_eq_true (by kernel_rfl)) (by unfold Func.isWrapper; first | (rw [if_pos (by decide +kernel)]; kernel_rfl) | (rw [if_neg (by decide +kernel)]; exact ⟨rfl, rfl⟩))
    (fun os started H enc _ => lifted os started H enc)

/-- ████ THE STATEMENT ████ -/
theorem proved : Rows.FnBoundSplitCostSaid :=
  over
end Go.Proofs.Qxb6605341aMods.fnBoundSplitCost
namespace Go.Proofs.Qxb6605341aMods
theorem fnBoundSplitCost_proved : Rows.FnBoundSplitCostSaid := fnBoundSplitCost.proved
end Go.Proofs.Qxb6605341aMods
