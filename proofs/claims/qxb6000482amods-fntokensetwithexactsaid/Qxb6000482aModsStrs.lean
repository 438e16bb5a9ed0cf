/-
  A slice of strings that is only read, and a copy of one: 'Reads', and the contracts of zzBytes_FnEnabledKeysExact (23), zzStrBytes (11), zzCloneStrs (12).
-/
import Derived.Test.Qxb6000482aModsRows
import Derived.WalkKit
import Derived.ProofKit
import Derived.Lib.SliceRun
namespace Go.Proofs.Qxb6000482aMods
open Go.RowKit

/-- The slice at address a, of ss.length elements, reads as the strings ss in the world w; its cells lie below block B. -/
def Reads (w : World) (B : Nat) (a : Option Addr) (ss : List ByteArray) : Prop :=
  (0 < ss.length → ∃ b off, a = some ⟨b, off, none⟩ ∧ b < B ∧ ∀ i, i < ss.length → w.cell? ⟨b, off + i, none⟩ = some (.string (ss.getD i ByteArray.empty))) ∧ ∀ s ∈ ss, s.size ≤ maxLen

theorem Reads.below {w w' : World} {B : Nat} {a : Option Addr} {ss : List ByteArray} (h : Reads w B a ss) (hb : Below B w w') : Reads w' B a ss := by
  refine ⟨fun hp => ?_, h.2⟩
  obtain ⟨b, off, ha, hlt, hc⟩ := h.1 hp
  exact ⟨b, off, ha, hlt, fun i hi => (hb.cell (p := ⟨b, off + i, none⟩) hlt).trans (hc i hi)⟩

theorem size_getD {ss : List ByteArray} (h : ∀ s ∈ ss, s.size ≤ maxLen) (i : Nat) : (ss.getD i ByteArray.empty).size ≤ maxLen := by
  rw [List.getD]
  cases e : ss[i]? with
  | none => simp [maxLen]
  | some s => exact h s (List.mem_of_getElem? e)

/-- It ends in a bool; in a number that is not negative. -/
def IsBool (p : Prop) (e : Ending) : Prop := e = .returned (.bool false) ∨ (e = .returned (.bool true) ∧ p)
/-- The first n strings are at most 1<<20 bytes long, each. -/
def Short (ss : List ByteArray) (n : Nat) : Prop := ∀ i, i < n → (ss.getD i ByteArray.empty).size ≤ 1048576
theorem Short.zero (ss : List ByteArray) : Short ss 0 := fun _ h => absurd h (Nat.not_lt_zero _)
theorem Short.succ {ss : List ByteArray} {k : Nat} (h : Short ss k) (hs : (ss.getD k ByteArray.empty).size ≤ 1048576) : Short ss (k + 1) := fun i hi => by
  rcases Nat.lt_succ_iff_lt_or_eq.1 hi with h1 | h1
  · exact h i h1
  · rw [h1]; exact hs
def IsNum (e : Ending) : Prop := ∃ q : Int, 0 ≤ q ∧ q ≤ 140737488355328 ∧ e = .returned (.int .i64 q)

theorem bytes23_nil (a : Option Addr) (c : Nat) (w : World) :
    Calls Trym.prog 23 #[.slice a 0 c] w fun e w' => IsBool (Short [] 0) e ∧ w = w' := by
  go_enter Trym.func23, Trym.ntmps23
  go_wp2
  refine wp_loop_rounds 1 ?_
  rw [rounds_succ]
  go_wp2
  go_ret
  exact ⟨.inr ⟨rfl, Short.zero _⟩, rfl⟩

theorem bytes23_some (b off n c : Nat) (ss : List ByteArray) (w : World) (hn : n * 16 ≤ 140737488351232) (hz : ∀ i, (ss.getD i ByteArray.empty).size ≤ maxLen)
    (hc : ∀ i, i < n → w.cell? ⟨b, off + i, none⟩ = some (.string (ss.getD i ByteArray.empty))) :
    Calls Trym.prog 23 #[.slice (some ⟨b, off, none⟩) n c] w fun e w' => IsBool (Short ss n) e ∧ w = w' := by
  unfold maxLen at hz
  go_enter Trym.func23, Trym.ntmps23
  go_wp2
  · go_ret
    exact ⟨.inl rfl, rfl⟩
  · go_loop [3, 4] (fun z i => ∃ (k : Nat) (q : Int), k ≤ n ∧ i = .int .i64 k ∧ z = .int .i64 q ∧ 0 ≤ q ∧ q ≤ 1048576 ∧ Short ss k) (fun _ i => n - (intOf i).toNat)
    case atStart => exact ⟨0, _, Nat.zero_le _, rfl, rfl, by omega, by omega, Short.zero _⟩
    case round =>
      obtain ⟨k, q, hk, rfl, rfl, hq0, hq1, hsh⟩ := hrel
      by_cases hlt : k < n
      · obtain ⟨s, hs⟩ : ∃ s, s = ss.getD k ByteArray.empty := ⟨_, rfl⟩
        have hcx : w.cell? ⟨b, off + k, none⟩ = some (.string s) := by rw [hs]; exact hc k hlt
        have hsz : s.size ≤ 9223372036854775807 := by rw [hs]; exact hz k
        have HS : Hid (s = ss.getD k ByteArray.empty) := hs
        clear hs hc hz
        go_wp2
        · go_ret
          exact ⟨.inl rfl, rfl⟩
        · go_ret
          exact ⟨.inl rfl, rfl⟩
        · go_round
          case rel => exact ⟨k + 1, _, by omega, by go_num, rfl, by omega, by omega, hsh.succ (by rw [← HS.out]; omega)⟩
          case measure => simp [intOf]; omega
      · clear hc hz
        have hkn : k = n := by omega
        have HN : Hid (k = n) := hkn
        clear hkn
        go_wp2
        go_ret
        exact ⟨.inr ⟨rfl, HN.out ▸ hsh⟩, rfl⟩

theorem bytes23 {w : World} {B : Nat} {a : Option Addr} {ss : List ByteArray} (h : Reads w B a ss) (hn : ss.length * 16 ≤ 140737488351232) (c : Nat) :
    Calls Trym.prog 23 #[.slice a ss.length c] w fun e w' => IsBool (Short ss ss.length) e ∧ w = w' := by
  by_cases h0 : 0 < ss.length
  · obtain ⟨b, off, rfl, _, hc⟩ := h.1 h0
    exact bytes23_some b off _ c ss w hn (size_getD h.2) hc
  · have hnil : ss = [] := List.length_eq_zero_iff.1 (by omega)
    rw [hnil]
    exact bytes23_nil a c w

theorem count11_nil (a : Option Addr) (c : Nat) (w : World) :
    Calls Trym.prog 11 #[.slice a 0 c] w fun e w' => IsNum e ∧ w = w' := by
  go_enter Trym.func11, Trym.ntmps11
  go_wp2
  refine wp_loop_rounds 1 ?_
  rw [rounds_succ]
  go_wp2
  go_ret
  exact ⟨⟨_, by omega, by omega, rfl⟩, rfl⟩

theorem count11_some (b off n c : Nat) (ss : List ByteArray) (w : World) (hn : n ≤ 65536) (hz : Short ss n)
    (hc : ∀ i, i < n → w.cell? ⟨b, off + i, none⟩ = some (.string (ss.getD i ByteArray.empty))) :
    Calls Trym.prog 11 #[.slice (some ⟨b, off, none⟩) n c] w fun e w' => IsNum e ∧ w = w' := by
  go_enter Trym.func11, Trym.ntmps11
  go_wp2
  go_loop [3, 4] (fun z i => ∃ (k : Nat) (q : Int), k ≤ n ∧ i = .int .i64 k ∧ z = .int .i64 q ∧ 0 ≤ q ∧ q ≤ 1048576) (fun _ i => n - (intOf i).toNat)
  case atStart => exact ⟨0, _, Nat.zero_le _, rfl, rfl, by omega, by omega⟩
  case round =>
    obtain ⟨k, q, hk, rfl, rfl, hq0, hq1⟩ := hrel
    by_cases hlt : k < n
    · obtain ⟨s, hs⟩ : ∃ s, s = ss.getD k ByteArray.empty := ⟨_, rfl⟩
      have hcx : w.cell? ⟨b, off + k, none⟩ = some (.string s) := by rw [hs]; exact hc k hlt
      have hsz : s.size ≤ 1048576 := by rw [hs]; exact hz k hlt
      clear hs hc hz
      go_wp2
      · go_ret
        exact ⟨⟨_, by omega, by omega, rfl⟩, rfl⟩
      · go_round
        case rel => exact ⟨k + 1, _, by omega, by go_num, rfl, by omega, by omega⟩
        case measure => simp [intOf]; omega
    · clear hc hz
      go_wp2
      go_ret
      exact ⟨⟨_, by omega, by omega, rfl⟩, rfl⟩

theorem count11 {w : World} {B : Nat} {a : Option Addr} {ss : List ByteArray} (h : Reads w B a ss) (hn : ss.length ≤ 65536) (hz : Short ss ss.length) (c : Nat) :
    Calls Trym.prog 11 #[.slice a ss.length c] w fun e w' => IsNum e ∧ w = w' := by
  by_cases h0 : 0 < ss.length
  · obtain ⟨b, off, rfl, _, hc⟩ := h.1 h0
    exact count11_some b off _ c ss w hn hz hc
  · rw [show ss.length = 0 by omega]
    exact count11_nil a c w
end Go.Proofs.Qxb6000482aMods
