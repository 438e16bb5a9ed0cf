/-
  store.isHeaderToken and what stands around it, by contracts: plain functions on lists of bytes, and the walks.
-/
import Derived.Test.Qxb6000482aModsRows
import Derived.WalkKit
import Derived.ProofKit
namespace Go.Proofs.Qxb6000482aMods
open Go.RowKit

/-- A visible ASCII byte. -/
def vis (c : UInt8) : Bool := decide (33 ≤ c.toNat ∧ c.toNat ≤ 126)
/-- All bytes visible. -/
def visAll (l : List UInt8) : Bool := l.all vis
/-- A header token: not empty, all visible. -/
def tok (s : ByteArray) : Bool := decide (0 < s.size) && visAll s.data.toList

theorem visAll_snoc (s : ByteArray) (k : Nat) (h : k < s.size) : visAll (s.data.toList.take (k + 1)) = (visAll (s.data.toList.take k) && vis s[k]) := by
  rw [List.take_succ_eq_append_getElem (by simpa using h)]
  simp [visAll]
  rfl

theorem ret_bool {a b : Bool} (h : a = b) : Ending.returned (.bool a) = .returned (.bool b) := by rw [h]

theorem isEmpty_iff (s : ByteArray) : s.toList.isEmpty = decide (s.size = 0) := by
  have e : s.size = s.data.toList.length := by rw [Array.length_toList]; rfl
  rw [ByteArray.toList_eq, e, Bool.eq_iff_iff, List.isEmpty_iff, decide_eq_true_iff, List.length_eq_zero_iff]

theorem tok_empty (s : ByteArray) (h : s.toList.isEmpty = true) : tok s = false := by
  rw [isEmpty_iff, decide_eq_true_iff] at h
  rw [tok, h]
  rfl
theorem tok_full (s : ByteArray) (h : s.toList.isEmpty = false) (hv : visAll (s.data.toList.take s.size) = true) : tok s = true := by
  rw [isEmpty_iff, decide_eq_false_iff_not] at h
  have e : s.data.toList.take s.size = s.data.toList := List.take_of_length_le (by rw [Array.length_toList]; exact Nat.le_refl _)
  rw [e] at hv
  have hp : 0 < s.size := Nat.pos_of_ne_zero h
  rw [tok, hv, decide_eq_true hp]
  rfl
theorem tok_bad (s : ByteArray) (k : Nat) (h : k < s.size) (hv : vis s[k] = false) : tok s = false := by
  have : visAll s.data.toList = false := by
    rw [visAll, List.all_eq_false]
    exact ⟨s[k], List.getElem_mem (by simpa using h), by simp [hv]⟩
  simp [tok, this]

set_option maxHeartbeats 400000 in
theorem isTok_any (s : ByteArray) (w : World) (hs : s.size ≤ maxLen) :
    Calls Trym.prog 28 #[.string s] w fun e w' => e = .returned (.bool (tok s)) ∧ w = w' := by
  unfold maxLen at hs
  by_cases he : s.toList.isEmpty = true
  · have ht := tok_empty s he
    go_enter Trym.func28, Trym.ntmps28
    go_wp2
    go_ret
    exact ⟨ret_bool ht.symm, rfl⟩
  have he' : s.toList.isEmpty = false := by simpa using he
  clear he
  go_enter Trym.func28, Trym.ntmps28
  go_wp2
  go_loop [3] (fun i => ∃ k : Nat, k ≤ s.size ∧ i = .int .i64 k ∧ Hid (visAll (s.data.toList.take k) = true)) (fun i => s.size - (intOf i).toNat)
  case atStart => exact ⟨0, Nat.zero_le _, rfl, rfl⟩
  case round =>
    obtain ⟨k, hk, rfl, hv⟩ := hrel
    by_cases hlt : k < s.size
    · have hsn := visAll_snoc s k hlt
      have HS : Hid (visAll (s.data.toList.take (k + 1)) = (visAll (s.data.toList.take k) && vis s[k])) := hsn
      clear hsn
      go_wp2
      · have h1 : 126 < (s[k].toNat : Int) := by omega
        go_ret
        exact ⟨ret_bool (tok_bad s k hlt (by unfold vis; rw [decide_eq_false_iff_not]; omega)).symm, rfl⟩
      · go_round
        case rel => exact ⟨k + 1, by omega, by go_num, by rw [Hid, HS.out, hv.out, vis, decide_eq_true (by omega)]; rfl⟩
        case measure => simp [intOf]; omega
      · have h1 : (s[k].toNat : Int) ≤ 32 := by assumption
        go_ret
        exact ⟨ret_bool (tok_bad s k hlt (by unfold vis; rw [decide_eq_false_iff_not]; omega)).symm, rfl⟩
    · go_wp2
      go_ret
      have hk' : k = s.size := by omega
      exact ⟨ret_bool (tok_full s he' (by rw [← hk']; exact hv.out)).symm, rfl⟩

theorem zzTok_any (s : ByteArray) (w : World) (hs : s.size ≤ maxLen) :
    Calls Trym.prog 20 #[.string s] w fun e w' => e = .returned (.bool (tok s)) ∧ w = w' := by
  go_enter Trym.func20, Trym.ntmps20
  go_wp2_with (go_at_call 28; refine (isTok_any _ _ hs).mono ?_; rintro e w' ⟨rfl, rfl⟩)
  go_ret
  exact ⟨rfl, rfl⟩

/-- Empty, or a token: all visible. -/
def tokOr (s : ByteArray) : Bool := visAll s.data.toList

theorem tokOr_empty (s : ByteArray) (h : s.toList.isEmpty = true) : tokOr s = true := by
  rw [ByteArray.toList_eq, List.isEmpty_iff] at h
  rw [tokOr, h]
  rfl
theorem tokOr_full (s : ByteArray) (h : s.toList.isEmpty = false) : tokOr s = tok s := by
  rw [isEmpty_iff, decide_eq_false_iff_not] at h
  have hp : 0 < s.size := Nat.pos_of_ne_zero h
  rw [tok, tokOr, decide_eq_true hp, Bool.true_and]

theorem tokOr_any (s : ByteArray) (w : World) (hs : s.size ≤ maxLen) :
    Calls Trym.prog 21 #[.string s] w fun e w' => e = .returned (.bool (tokOr s)) ∧ w = w' := by
  by_cases he : s.toList.isEmpty = true
  · have ht := tokOr_empty s he
    go_enter Trym.func21, Trym.ntmps21
    go_wp2
    go_ret
    exact ⟨ret_bool ht.symm, rfl⟩
  · have he' : s.toList.isEmpty = false := by simpa using he
    have ht := tokOr_full s he'
    have HT : Hid (tokOr s = tok s) := ht
    clear he ht
    go_enter Trym.func21, Trym.ntmps21
    go_wp2_with (go_at_call 20; refine (zzTok_any _ _ hs).mono ?_; rintro e w' ⟨rfl, rfl⟩)
    go_ret
    exact ⟨ret_bool HT.out.symm, rfl⟩

theorem bytes22_yes (a b : ByteArray) (c : Int) (w : World) (h : a.size + b.size ≤ 1048576) :
    Calls Trym.prog 22 #[.string a, .string b, .int .u8 c] w fun e w' => e = .returned (.bool true) ∧ w = w' := by
  go_enter Trym.func22, Trym.ntmps22
  go_wp2
  go_ret
  exact ⟨rfl, rfl⟩
theorem bytes22_no (a b : ByteArray) (c : Int) (w : World) (h : 1048576 < a.size + b.size) (ha : a.size ≤ maxLen) (hb : b.size ≤ maxLen) :
    Calls Trym.prog 22 #[.string a, .string b, .int .u8 c] w fun e w' => e = .returned (.bool false) ∧ w = w' := by
  unfold maxLen at ha hb
  go_enter Trym.func22, Trym.ntmps22
  go_wp2
  all_goals go_ret
  all_goals exact ⟨rfl, rfl⟩
end Go.Proofs.Qxb6000482aMods
