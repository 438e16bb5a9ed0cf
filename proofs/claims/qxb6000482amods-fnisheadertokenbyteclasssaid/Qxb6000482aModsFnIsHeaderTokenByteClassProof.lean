/-
  FnIsHeaderTokenByteClass: the shell written by program (proof-skeleton.mjs), its walk filled in.
-/
import Derived.Test.Qxb6000482aModsTok
import Derived.WalkKit
import Derived.ProofKit
import Derived.OpenShut
import Derived.ShutString
namespace Go.Proofs.Qxb6000482aMods.fnIsHeaderTokenByteClass
open Go.ChangeShapes Go.WideShapes Go.ChangeAt Go.RowKit
open Go.ChangeMaps (open_string shut_string)
set_option linter.unusedVariables false      -- a walk need not use every 'w<i>' (that an integer argument fits its kind)

theorem own : ownKnob Trym.prog.godebug = none := by kernel_rfl

/-! ### THE PLAIN LAW -/
theorem conv_one (a2 : Int) (w : World) : (convert 36 9 (.slice (some ⟨w.heap.size, 0, none⟩) 1 1)).run Trym.prog (w.alloc (.cells #[.int .u8 a2] 5)) = .ok (.string (strOfNums [a2])) (w.alloc (.cells #[.int .u8 a2] 5)) := by
  refine run_convert_bytes_arg _ 36 5 Trym.underlying36 Trym.underlying5 w.heap.size 0 1 1 [a2] rfl (fun i hi => ?_) 9 Trym.underlying9
  have h0 : i = 0 := by omega
  subst h0
  simp

theorem data_append (a b : ByteArray) : (a ++ b).data.toList = a.data.toList ++ b.data.toList := by simp
theorem visAll_three (a b : ByteArray) (c : Int) : visAll (a ++ strOfNums [c] ++ b).data.toList = (visAll a.data.toList && vis (UInt8.ofNat c.toNat) && visAll b.data.toList) := by
  rw [data_append, data_append]
  simp [visAll, strOfNums, Bool.and_assoc]
theorem vis_of (c : Int) (h0 : 0 ≤ c) (h1 : c ≤ 255) : vis (UInt8.ofNat c.toNat) = decide (33 ≤ c ∧ c ≤ 126) := by
  unfold vis
  rw [decide_eq_decide]
  have : (UInt8.ofNat c.toNat).toNat = c.toNat := by simp; omega
  rw [this]
  omega
theorem size_three (a b : ByteArray) (c : Int) : (a ++ strOfNums [c] ++ b).size = a.size + 1 + b.size := by
  rw [ByteArray.size_append, ByteArray.size_append]
  rfl
theorem tok_three (a b : ByteArray) (c : Int) : tok (a ++ strOfNums [c] ++ b) = (visAll a.data.toList && vis (UInt8.ofNat c.toNat) && visAll b.data.toList) := by
  rw [tok, visAll_three, size_three, decide_eq_true (by omega), Bool.true_and]
theorem tok_one (c : Int) : tok (strOfNums [c]) = vis (UInt8.ofNat c.toNat) := by
  show (true && (vis (UInt8.ofNat c.toNat) && true)) = _
  simp

/-! ### THE WAYS, one theorem each. 'o': the text of the one byte -/
theorem way_low (a0 a1 o : ByteArray) (a2 : Int) (w : World) (c0 : a0.size + a1.size + 1 ≤ 1048576) (ho : o.size ≤ 1) (ho' : o.size ≤ maxLen) (hs : (a0 ++ o ++ a1).size ≤ maxLen)
    (hcv : (convert 36 9 (.slice (some ⟨w.heap.size, 0, none⟩) 1 1)).run Trym.prog (w.alloc (.cells #[.int .u8 a2] 5)) = .ok (.string o) (w.alloc (.cells #[.int .u8 a2] 5)))
    (v : a2 < 33) (t1 : tok o = false) (t2 : tok (a0 ++ o ++ a1) = false) :
    Calls Trym.prog 7 #[.string a0, .string a1, .int .u8 a2] w fun e w' => e = .returned (.bool true) ∧ Grown w w' := by
  have x1 : ¬ 9223372036854775807 < a0.size + o.size := by omega
  have x2 : ¬ 9223372036854775807 < a0.size + o.size + a1.size := by omega
  go_enter Trym.func7, Trym.ntmps7
  go_wp2_with (first | (go_at_call 22; refine (bytes22_yes _ _ _ _ (by omega)).mono ?_; rintro e w' ⟨rfl, rfl⟩) | (go_at_call 20; first | (refine (zzTok_any o _ ho').mono ?_; rintro e w' ⟨rfl, rfl⟩) | (refine (zzTok_any (a0 ++ o ++ a1) _ hs).mono ?_; rintro e w' ⟨rfl, rfl⟩)) | (go_at_call 21; refine (tokOr_any _ _ (by unfold maxLen; omega)).mono ?_; rintro e w' ⟨rfl, rfl⟩))
  go_ret
  exact ⟨rfl, (Grown.refl _).alloc _ _⟩

theorem way_high (a0 a1 o : ByteArray) (a2 : Int) (w : World) (c0 : a0.size + a1.size + 1 ≤ 1048576) (ho : o.size ≤ 1) (ho' : o.size ≤ maxLen) (hs : (a0 ++ o ++ a1).size ≤ maxLen)
    (hcv : (convert 36 9 (.slice (some ⟨w.heap.size, 0, none⟩) 1 1)).run Trym.prog (w.alloc (.cells #[.int .u8 a2] 5)) = .ok (.string o) (w.alloc (.cells #[.int .u8 a2] 5)))
    (v : 33 ≤ a2) (v' : decide (a2 ≤ 126) = false) (t1 : tok o = false) (t2 : tok (a0 ++ o ++ a1) = false) :
    Calls Trym.prog 7 #[.string a0, .string a1, .int .u8 a2] w fun e w' => e = .returned (.bool true) ∧ Grown w w' := by
  have x1 : ¬ 9223372036854775807 < a0.size + o.size := by omega
  have x2 : ¬ 9223372036854775807 < a0.size + o.size + a1.size := by omega
  go_enter Trym.func7, Trym.ntmps7
  go_wp2_with (first | (go_at_call 22; refine (bytes22_yes _ _ _ _ (by omega)).mono ?_; rintro e w' ⟨rfl, rfl⟩) | (go_at_call 20; first | (refine (zzTok_any o _ ho').mono ?_; rintro e w' ⟨rfl, rfl⟩) | (refine (zzTok_any (a0 ++ o ++ a1) _ hs).mono ?_; rintro e w' ⟨rfl, rfl⟩)) | (go_at_call 21; refine (tokOr_any _ _ (by unfold maxLen; omega)).mono ?_; rintro e w' ⟨rfl, rfl⟩))
  go_ret
  exact ⟨rfl, (Grown.refl _).alloc _ _⟩

theorem way_first (a0 a1 o : ByteArray) (a2 : Int) (w : World) (c0 : a0.size + a1.size + 1 ≤ 1048576) (ho : o.size ≤ 1) (ho' : o.size ≤ maxLen) (hs : (a0 ++ o ++ a1).size ≤ maxLen)
    (hcv : (convert 36 9 (.slice (some ⟨w.heap.size, 0, none⟩) 1 1)).run Trym.prog (w.alloc (.cells #[.int .u8 a2] 5)) = .ok (.string o) (w.alloc (.cells #[.int .u8 a2] 5)))
    (v : 33 ≤ a2) (v' : a2 ≤ 126) (t1 : tok o = true) (t2 : tok (a0 ++ o ++ a1) = false) (t3 : tokOr a0 = false) :
    Calls Trym.prog 7 #[.string a0, .string a1, .int .u8 a2] w fun e w' => e = .returned (.bool true) ∧ Grown w w' := by
  have x1 : ¬ 9223372036854775807 < a0.size + o.size := by omega
  have x2 : ¬ 9223372036854775807 < a0.size + o.size + a1.size := by omega
  go_enter Trym.func7, Trym.ntmps7
  go_wp2_with (first | (go_at_call 22; refine (bytes22_yes _ _ _ _ (by omega)).mono ?_; rintro e w' ⟨rfl, rfl⟩) | (go_at_call 20; first | (refine (zzTok_any o _ ho').mono ?_; rintro e w' ⟨rfl, rfl⟩) | (refine (zzTok_any (a0 ++ o ++ a1) _ hs).mono ?_; rintro e w' ⟨rfl, rfl⟩)) | (go_at_call 21; refine (tokOr_any _ _ (by unfold maxLen; omega)).mono ?_; rintro e w' ⟨rfl, rfl⟩))
  go_ret
  exact ⟨rfl, (Grown.refl _).alloc _ _⟩

theorem way_all (a0 a1 o : ByteArray) (a2 : Int) (w : World) (c0 : a0.size + a1.size + 1 ≤ 1048576) (ho : o.size ≤ 1) (ho' : o.size ≤ maxLen) (hs : (a0 ++ o ++ a1).size ≤ maxLen)
    (hcv : (convert 36 9 (.slice (some ⟨w.heap.size, 0, none⟩) 1 1)).run Trym.prog (w.alloc (.cells #[.int .u8 a2] 5)) = .ok (.string o) (w.alloc (.cells #[.int .u8 a2] 5)))
    (v : 33 ≤ a2) (v' : a2 ≤ 126) (t1 : tok o = true) (t2 : tok (a0 ++ o ++ a1) = tokOr a1) (t3 : tokOr a0 = true) :
    Calls Trym.prog 7 #[.string a0, .string a1, .int .u8 a2] w fun e w' => e = .returned (.bool true) ∧ Grown w w' := by
  have x1 : ¬ 9223372036854775807 < a0.size + o.size := by omega
  have x2 : ¬ 9223372036854775807 < a0.size + o.size + a1.size := by omega
  go_enter Trym.func7, Trym.ntmps7
  go_wp2_with (first | (go_at_call 22; refine (bytes22_yes _ _ _ _ (by omega)).mono ?_; rintro e w' ⟨rfl, rfl⟩) | (go_at_call 20; first | (refine (zzTok_any o _ ho').mono ?_; rintro e w' ⟨rfl, rfl⟩) | (refine (zzTok_any (a0 ++ o ++ a1) _ hs).mono ?_; rintro e w' ⟨rfl, rfl⟩)) | (go_at_call 21; refine (tokOr_any _ _ (by unfold maxLen; omega)).mono ?_; rintro e w' ⟨rfl, rfl⟩))
  go_ret
  exact ⟨rfl, (Grown.refl _).alloc _ _⟩

/-! ### STEP 1: THE WALK: the Go text returns true. 'Grown w w'': the world has at most new blocks (Derived/RowKit3.lean). Part the cases AHEAD of 'go_enter' where a test parts the walk; take each callee by a contract of your own. -/
theorem walk (a0 : ByteArray) (a1 : ByteArray) (a2 : Int) (w0 : a0.size ≤ maxLen) (w1 : a1.size ≤ maxLen) (w2 : (Lit.int .u8 a2).wf = true) (w : World) :
    Calls Trym.prog 7 #[.string a0, .string a1, .int .u8 a2] w fun e w' => e = .returned (.bool true) ∧ Grown w w' := by
  have hc := bounds_u8 w2
  by_cases c0 : 1048576 < a0.size + a1.size
  · go_enter Trym.func7, Trym.ntmps7
    go_wp2_with (go_at_call 22; refine (bytes22_no _ _ _ _ c0 w0 w1).mono ?_; rintro e w' ⟨rfl, rfl⟩)
    go_ret
    exact ⟨rfl, Grown.refl _⟩
  have c0' : a0.size + a1.size ≤ 1048576 := by omega
  clear c0
  by_cases c1 : 1048576 < a0.size + a1.size + 1
  · go_enter Trym.func7, Trym.ntmps7
    go_wp2_with (go_at_call 22; refine (bytes22_yes _ _ _ _ c0').mono ?_; rintro e w' ⟨rfl, rfl⟩)
    go_ret
    exact ⟨rfl, Grown.refl _⟩
  have c1' : a0.size + a1.size + 1 ≤ 1048576 := by omega
  clear c1
  have hcv := conv_one a2 w
  have s1 : (strOfNums [a2]).size ≤ 1 := Nat.le_refl 1
  have s2 : (strOfNums [a2]).size ≤ maxLen := by unfold maxLen; omega
  have s3 : (a0 ++ strOfNums [a2] ++ a1).size ≤ maxLen := by rw [size_three]; unfold maxLen; omega
  have t1 := tok_one a2
  have t2 := tok_three a0 a1 a2
  rw [vis_of a2 hc.1 hc.2] at t1 t2
  by_cases v1 : 33 ≤ a2
  · by_cases v2 : a2 ≤ 126
    · rw [decide_eq_true (And.intro v1 v2)] at t1 t2
      cases t3 : visAll a0.data.toList with
      | false => exact way_first a0 a1 _ a2 w c1' s1 s2 s3 hcv v1 v2 t1 (by rw [t2, t3]; rfl) t3
      | true => exact way_all a0 a1 _ a2 w c1' s1 s2 s3 hcv v1 v2 t1 (by rw [t2, t3]; rfl) t3
    · rw [decide_eq_false (by omega)] at t1 t2
      exact way_high a0 a1 _ a2 w c1' s1 s2 s3 hcv v1 (decide_eq_false v2) t1 (by rw [t2, Bool.and_false, Bool.false_and])
  · rw [decide_eq_false (by omega)] at t1 t2
    exact way_low a0 a1 _ a2 w c1' s1 s2 s3 hcv (by omega) t1 (by rw [t2, Bool.and_false, Bool.false_and])

/-! ### THE ROW's STEP: WRITTEN OUT: LEAVE IT -/
set_option maxRecDepth 100000 in
theorem lifted (os : Os) (started : os.Started) (H : Type) (enc : TypeId × Value → H) :
    ReturnsInHanded {} Trym.checked os 7 .any (Rows.fnIsHeaderTokenByteClassSpec.pre6 enc Trym.prog Trym.f7 Rows.fnIsHeaderTokenByteClassRow.domain false) (Rows.fnIsHeaderTokenByteClassSpec.post enc Trym.prog Trym.f7 false true false false) := by
  refine returnsInHanded_of_change (C := Trym.checked) own started (by kernel_rfl) Trym.func7
    (ChangeSpec.witness6 (enc := enc) (C := Trym.checked) false ⟨#[], #[.string ByteArray.empty, .string ByteArray.empty, .int .u8 0], []⟩ 8 (by kernel_rfl) (by kernel_rfl) (by kernel_rfl) (by kernel_rfl)) ?_
  intro W base args ds gs before hval0 hW hcnd _
  have hval : ∀ (j : Nat) t v, Trym.f7.params[j]? = some t → args[j]? = some v → Value.okWide Trym.prog W .any base t v := hval0
  have hW' := hW
  obtain ⟨p, q, hA0, hV, rfl, hfz, hnd⟩ := hW
  have hA : DataW.TrodAll enc Trym.prog W 0 (fun _ => true) true Trym.f7.params.toList args.toList ds p := hA0
  rw [Trym.params7] at hA hval
  obtain ⟨v0, vs0, d0, ds0, p0, q0, hargs, rfl, rfl, h0, r0⟩ := trodAll_cons hA
  obtain ⟨v1, vs1, d1, ds1, p1, q1, rfl, rfl, rfl, h1, r1⟩ := trodAll_cons r0
  obtain ⟨v2, vs2, d2, ds2, p2, q2, rfl, rfl, rfl, h2, r2⟩ := trodAll_cons r1
  obtain ⟨rfl, rfl, rfl⟩ := trodAll_nil r2
  obtain rfl : args = #[v0, v1, v2] := by cases args; simp_all
  obtain ⟨rfl, rfl⟩ := trodVars_none hV
  obtain ⟨a0, rfl, rfl, rfl, w0⟩ := open_string Trym.underlying9 (hval 0 9 v0 rfl rfl) h0
  obtain ⟨a1, rfl, rfl, rfl, w1⟩ := open_string Trym.underlying9 (hval 1 9 v1 rfl rfl) h1
  obtain ⟨a2, rfl, rfl, rfl, w2⟩ := open_int Trym.underlying5 (hval 2 5 v2 rfl rfl) h2
  clear hA0 hval0
  simp only [List.append_nil] at hW'
  refine (walk a0 a1 a2 w0 w1 w2 W).mono fun e W' ⟨he, hg⟩ => ?_
  subst he
  exact ⟨_, rfl, post_of_same (pa := []) (pv := []) hW' (fun _ _ _ => (trodAll_cons_mk (shut_bool Trym.underlying4 _) trodAll_mk0)) (fun sp _ => (trodAll_cons_mk (shut_string Trym.underlying9 w0) (trodAll_cons_mk (shut_string Trym.underlying9 w1) (trodAll_cons_mk (shut_int Trym.underlying5 w2) trodAll_mk0)))) (fun _ _ => rfl) rfl
    (hg.frame _) hg.2.1 (ok_one (by kernel_rfl) rfl (okWide_bool_mk Trym.underlying4 _))⟩

theorem over : Rows.fnIsHeaderTokenByteClassRow.holds Trym.pinned (OpenSpec.ofChange Rows.fnIsHeaderTokenByteClassSpec) :=
  OpenClaim.holds_of_wide 7 Trym.f7 rfl rfl rfl rfl rfl rfl rfl ⟨rfl, rfl, rfl, rfl, rfl⟩ rfl rfl rfl rfl rfl (by kernel_rfl) Trym.func7 (by kernel_rfl)
    (of_decide_eq_true (by kernel_rfl)) (by unfold Func.isWrapper; first | (rw [if_pos (by decide +kernel)]; kernel_rfl) | (rw [if_neg (by decide +kernel)]; exact ⟨rfl, rfl⟩))
    (fun os started H enc _ => lifted os started H enc)

/-- ████ THE STATEMENT ████ -/
theorem proved : Rows.FnIsHeaderTokenByteClassSaid :=
  over
end Go.Proofs.Qxb6000482aMods.fnIsHeaderTokenByteClass
namespace Go.Proofs.Qxb6000482aMods
theorem fnIsHeaderTokenByteClass_proved : Rows.FnIsHeaderTokenByteClassSaid := fnIsHeaderTokenByteClass.proved
end Go.Proofs.Qxb6000482aMods
