/-
  coding.Bound by its contract: at every count from 0 to 2^62 it returns the count, 22 bytes and 3 bytes a block; 'blk' is the count of blocks of 128 KiB, at least one. Shared by the three laws of this seat.
-/
import Derived.Test.Qxb6605341aModsRows
import Derived.WalkKit
import Derived.ProofKit
namespace Go.Proofs.Qxb6605341aMods
open Go.RowKit

/-- The count of blocks: at least one. -/
def blk (s : Int) : Int := if 1 < (s + 131072 - 1) / 131072 then (s + 131072 - 1) / 131072 else 1

theorem blk_le (s : Int) (h0 : 0 ≤ s) : 1 ≤ blk s ∧ 131072 * blk s ≤ s + 131072 ∧ s ≤ 131072 * blk s ∧ (blk s = 1 ∨ 131072 * (blk s - 1) < s) := by
  unfold blk
  split <;> omega

theorem ret_int {k : IntKind} {a b : Int} (h : a = b) : Ending.returned (.int k a) = .returned (.int k b) := by rw [h]

theorem bound_any (s : Int) (h0 : 0 ≤ s) (h1 : s ≤ 4611686018427387904) (w : World) :
    Calls Trym.prog 6 #[.int .i64 s] w fun e w' => e = .returned (.int .i64 (s + 22 + 3 * blk s)) ∧ w' = w := by
  go_enter Trym.func6, Trym.ntmps6
  go_wp2
  · have hb : blk s = (s + 131072 - 1) / 131072 := by unfold blk; rw [if_pos (by assumption)]
    go_ret
    exact ⟨ret_int (by rw [hb]; omega), rfl⟩
  · have hb : blk s = 1 := by unfold blk; rw [if_neg (by omega)]
    go_ret
    exact ⟨ret_int (by rw [hb]; omega), rfl⟩

theorem bound_w (s : Int) (h0 : 0 ≤ s) (h1 : s ≤ 4611686018427387904) (w : World) :
    Calls Trym.prog 6 #[.int .i64 s] w fun e w' => e = .returned (.int .i64 (s + 22 + 3 * blk s)) ∧ w = w' :=
  (bound_any s h0 h1 w).mono fun _ _ ⟨h, h'⟩ => ⟨h, h'.symm⟩

theorem ret_true {b : Bool} (h : b = true) : Ending.returned (.bool b) = .returned (.bool true) := by rw [h]

/-- The same, the count of blocks under a name of the caller's. -/
theorem bound_k (s k : Int) (h0 : 0 ≤ s) (h1 : s ≤ 4611686018427387904) (hk : Hid (k = blk s)) (w : World) :
    Calls Trym.prog 6 #[.int .i64 s] w fun e w' => e = .returned (.int .i64 (s + 22 + 3 * k)) ∧ w = w' := by
  rw [hk.out]
  exact (bound_any s h0 h1 w).mono fun e w' ⟨h, h'⟩ => ⟨h, h'.symm⟩

theorem bound_zero (w : World) : Calls Trym.prog 6 #[.int .i64 0] w fun e w' => e = .returned (.int .i64 25) ∧ w = w' := by
  have hb : blk 0 = 1 := by unfold blk; rw [if_neg (by omega)]
  refine (bound_any 0 (by omega) (by omega) w).mono fun e w' ⟨h, h'⟩ => ⟨?_, h'.symm⟩
  rw [h, hb]
  exact ret_int (by omega)

/-- One byte more: a block more just behind a positive multiple of 128 KiB. -/
theorem blk_step_new (s : Int) (h0 : 0 < s) (h : s % 131072 = 0) : blk (s + 1) = blk s + 1 := by
  have e1 : blk s = s / 131072 := by unfold blk; split <;> omega
  have e2 : blk (s + 1) = s / 131072 + 1 := by unfold blk; rw [if_pos (by omega)]; omega
  omega
theorem blk_step_zero : blk (0 + 1) = blk 0 := by unfold blk; rw [if_neg (by omega), if_neg (by omega)]
theorem blk_step_old (s : Int) (h0 : 0 < s) (h : s % 131072 ≠ 0) : blk (s + 1) = blk s := by
  have e1 : blk s = s / 131072 + 1 := by unfold blk; split <;> omega
  have e2 : blk (s + 1) = s / 131072 + 1 := by unfold blk; split <;> omega
  omega

theorem blk_pos (s : Int) (h0 : 0 < s) : blk s = (s + 131071) / 131072 := by
  have e : s + 131072 - 1 = s + 131071 := by omega
  unfold blk
  rw [e]
  split <;> omega
theorem blk_zero : blk 0 = 1 := by unfold blk; rw [if_neg (by omega)]
/-- Two parts, both of them not empty: one block more where both tails are there and lie in one block; else none. -/
theorem blk_split_less (a b : Int) (ha : 0 < a) (hb : 0 < b) (r1 : a % 131072 ≠ 0) (r2 : b % 131072 ≠ 0) (r3 : a % 131072 + b % 131072 ≤ 131072) : blk a + blk b = blk (a + b) + 1 := by
  rw [blk_pos a ha, blk_pos b hb, blk_pos (a + b) (by omega)]
  omega
theorem blk_split_more (a b : Int) (ha : 0 < a) (hb : 0 < b) (r3 : 131072 < a % 131072 + b % 131072) : blk a + blk b = blk (a + b) := by
  rw [blk_pos a ha, blk_pos b hb, blk_pos (a + b) (by omega)]
  omega
theorem blk_split_left (a b : Int) (ha : 0 < a) (hb : 0 < b) (r1 : a % 131072 = 0) : blk a + blk b = blk (a + b) := by
  rw [blk_pos a ha, blk_pos b hb, blk_pos (a + b) (by omega)]
  omega
theorem blk_split_right (a b : Int) (ha : 0 < a) (hb : 0 < b) (r1 : b % 131072 = 0) : blk a + blk b = blk (a + b) := by
  rw [blk_pos a ha, blk_pos b hb, blk_pos (a + b) (by omega)]
  omega
end Go.Proofs.Qxb6605341aMods
