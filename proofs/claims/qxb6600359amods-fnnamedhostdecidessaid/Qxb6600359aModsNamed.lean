/-
  zzBytes_FnNamedHostDecides (17), client.named (24), ZZnamed (20) by their contracts.
-/
import Derived.Test.Qxb6600359aModsStrs
namespace Go.Proofs.Qxb6600359aMods
open Go.RowKit

/-- It ends in a bool. -/
def EndsBool (e : Ending) : Prop := e = .returned (.bool false) ∨ e = .returned (.bool true)

set_option maxHeartbeats 1000000 in
theorem bytes17 {w : World} {B B' : Nat} {a a' : Option Addr} {ss tt : List ByteArray} (h : Reads w B a ss) (h' : Reads w B' a' tt) (hn : ss.length * 16 ≤ 140737488351232) (hn' : tt.length * 16 ≤ 140737488351232) (c c' : Nat)
    (p0 p1 p2 p4 p5 : ByteArray) (l0 : p0.size ≤ maxLen) (l1 : p1.size ≤ maxLen) (l2 : p2.size ≤ maxLen) (l4 : p4.size ≤ maxLen) (l5 : p5.size ≤ maxLen) :
    Calls Trym.prog 17 #[.string p0, .string p1, .string p2, .slice a ss.length c, .string p4, .string p5, .slice a' tt.length c'] w fun e w' => EndsBool e ∧ w = w' := by
  have hz := size_getD h.2
  have hz' := size_getD h'.2
  unfold maxLen at hz hz' l0 l1 l2 l4 l5
  go_enter Trym.func17, Trym.ntmps17
  go_wp2
  all_goals first | (go_ret; exact ⟨.inl rfl, rfl⟩) | skip
  go_loop [15, 16] (fun z i => ∃ (k : Nat) (q : Int), k ≤ ss.length ∧ i = .int .i64 k ∧ z = .int .i64 q ∧ 0 ≤ q ∧ q ≤ 1048576) (fun _ i => ss.length - (intOf i).toNat)
  case atStart => exact ⟨0, _, Nat.zero_le _, rfl, rfl, by omega, by omega⟩
  case round =>
    obtain ⟨k, q, hk, rfl, rfl, hq0, hq1⟩ := hrel
    by_cases hlt : k < ss.length
    · obtain ⟨b, off, rfl, _, hc⟩ := h.1 (by omega)
      obtain ⟨s, hs⟩ : ∃ s, s = ss.getD k ByteArray.empty := ⟨_, rfl⟩
      have hcx : w.cell? ⟨b, off + k, none⟩ = some (.string s) := by rw [hs]; exact hc k hlt
      have hsz : s.size ≤ 9223372036854775807 := by rw [hs]; exact hz k
      clear hs hc hz h hz' h'
      go_wp2
      · go_ret
        exact ⟨.inl rfl, rfl⟩
      · go_ret
        exact ⟨.inl rfl, rfl⟩
      · go_round
        case rel => exact ⟨k + 1, _, by omega, by go_num, rfl, by omega, by omega⟩
        case measure => simp [intOf]; omega
    · clear hz h
      go_wp2
      all_goals first | (go_ret; exact ⟨.inl rfl, rfl⟩) | skip
      go_loop [15, 17] (fun z i => ∃ (k : Nat) (q : Int), k ≤ tt.length ∧ i = .int .i64 k ∧ z = .int .i64 q ∧ 0 ≤ q ∧ q ≤ 1048576) (fun _ i => tt.length - (intOf i).toNat)
      case atStart => exact ⟨0, _, Nat.zero_le _, rfl, rfl, by omega, by omega⟩
      case round =>
        obtain ⟨j, r, hj, rfl, rfl, hr0, hr1⟩ := hrel
        by_cases hjt : j < tt.length
        · obtain ⟨b, off, rfl, _, hc⟩ := h'.1 (by omega)
          obtain ⟨s, hs⟩ : ∃ s, s = tt.getD j ByteArray.empty := ⟨_, rfl⟩
          have hcx : w.cell? ⟨b, off + j, none⟩ = some (.string s) := by rw [hs]; exact hc j hjt
          have hsz : s.size ≤ 9223372036854775807 := by rw [hs]; exact hz' j
          clear hs hc hz' h'
          go_wp2
          · go_ret
            exact ⟨.inl rfl, rfl⟩
          · go_ret
            exact ⟨.inl rfl, rfl⟩
          · go_round
            case rel => exact ⟨j + 1, _, by omega, by go_num, rfl, by omega, by omega⟩
            case measure => simp [intOf]; omega
        · clear hz' h'
          go_wp2
          go_ret
          exact ⟨.inr rfl, rfl⟩

/-! ### named -/
/-- A is p, then the word 'on' between blanks, then h. -/
def Named (p h A : ByteArray) : Prop := A.data.toList = p.data.toList ++ [32, 111, 110, 32] ++ h.data.toList

theorem named24_nil (p : ByteArray) (w : World) : Calls Trym.prog 24 #[.string p, .pointer none] w fun e w' => e = .returned (.string p) ∧ w = w' := by
  go_enter Trym.func24, Trym.ntmps24
  go_wp2
  go_ret
  exact ⟨rfl, rfl⟩

theorem named24_some (p h : ByteArray) (g : Nat) (w : World) (hc : w.cell? ⟨g, 1, none⟩ = some (.string h)) (hp : p.size ≤ 65536) (hh : h.size ≤ 65536) :
    Calls Trym.prog 24 #[.string p, .pointer (some ⟨g, 0, none⟩)] w fun e w' => ∃ A, e = .returned (.string A) ∧ Named p h A ∧ w = w' := by
  go_enter Trym.func24, Trym.ntmps24
  go_wp2
  go_ret
  exact ⟨_, rfl, by unfold Named; simp, rfl⟩

theorem named20_nil (p : ByteArray) (w : World) : Calls Trym.prog 20 #[.string p, .pointer none] w fun e w' => e = .returned (.string p) ∧ w = w' := by
  go_enter Trym.func20, Trym.ntmps20
  go_wp2_with (go_at_call 24; refine (named24_nil p w).mono ?_; rintro e w' ⟨rfl, rfl⟩)
  go_ret
  exact ⟨rfl, rfl⟩

theorem named20_some (p h : ByteArray) (g : Nat) (w : World) (hc : w.cell? ⟨g, 1, none⟩ = some (.string h)) (hp : p.size ≤ 65536) (hh : h.size ≤ 65536) :
    Calls Trym.prog 20 #[.string p, .pointer (some ⟨g, 0, none⟩)] w fun e w' => ∃ A, e = .returned (.string A) ∧ Named p h A ∧ w = w' := by
  have H := named24_some p h g w hc hp hh
  go_enter Trym.func20, Trym.ntmps20
  go_wp2_with (go_at_call 24; refine H.mono ?_; rintro e w' ⟨A, rfl, hA, rfl⟩)
  go_ret
  exact ⟨A, rfl, hA, rfl⟩

/-! ### THE PLAIN LAW -/
theorem same_iff {p h h' A B : ByteArray} (hA : Named p h A) (hB : Named p h' B) : (A.toList == B.toList) = (h.toList == h'.toList) := by
  unfold Named at hA hB
  rw [ByteArray.toList_eq, ByteArray.toList_eq, ByteArray.toList_eq, ByteArray.toList_eq, hA, hB, Bool.eq_iff_iff]
  simp
theorem not_bare {p h A : ByteArray} (hA : Named p h A) : (A.toList == p.toList) = false := by
  unfold Named at hA
  have hl : A.data.toList.length ≠ p.data.toList.length := by
    rw [hA]
    simp only [List.length_append, List.length_cons, List.length_nil]
    omega
  rw [ByteArray.toList_eq, ByteArray.toList_eq]
  cases e : (A.data.toList == p.data.toList) with
  | false => rfl
  | true => exact absurd (congrArg List.length (eq_of_beq e)) hl

theorem Reads.mono {w : World} {B B' : Nat} {a : Option Addr} {ss : List ByteArray} (h : Reads w B a ss) (hB : B ≤ B') : Reads w B' a ss := by
  refine ⟨fun hp => ?_, h.2⟩
  obtain ⟨b, off, ha, hlt, hc⟩ := h.1 hp
  exact ⟨b, off, ha, Nat.lt_of_lt_of_le hlt hB, hc⟩

set_option maxHeartbeats 2000000 in
theorem named_any {w : World} {a a' : Option Addr} {ss tt : List ByteArray} (h : Reads w w.heap.size a ss) (h' : Reads w w.heap.size a' tt) (hn : ss.length * 16 ≤ 140737488351232) (hn' : tt.length * 16 ≤ 140737488351232) (c c' : Nat)
    (p0 p1 p2 p4 p5 : ByteArray) (l0 : p0.size ≤ maxLen) (l1 : p1.size ≤ maxLen) (l2 : p2.size ≤ maxLen) (l4 : p4.size ≤ maxLen) (l5 : p5.size ≤ maxLen) :
    Calls Trym.prog 7 #[.string p0, .string p1, .string p2, .slice a ss.length c, .string p4, .string p5, .slice a' tt.length c'] w fun e w' => e = .returned (.bool true) ∧ Below w.heap.size w w' := by
  have H17 := bytes17 h h' hn hn' c c' p0 p1 p2 p4 p5 l0 l1 l2 l4 l5
  unfold maxLen at l0 l1 l2 l4 l5
  go_enter Trym.func7, Trym.ntmps7
  go_wp2_with (go_at_call 17; refine H17.mono ?_; rintro e w' ⟨hib, rfl⟩; rcases hib with rfl | rfl)
  all_goals first | (go_ret; exact ⟨rfl, Below.refl _ _⟩) | skip
  have m0 : p0.size ≤ 65536 := by omega
  have m1 : p1.size ≤ 65536 := by omega
  have m4 : p4.size ≤ 65536 := by omega
  have m2 : p2.size ≤ 65536 := by omega
  have m5 : p5.size ≤ 65536 := by omega
  clear H17 l0 l1 l2 l4 l5
  refine (count18 h hn c).mono ?_
  rintro e w' ⟨⟨q, hq0, hq1, hq2, rfl⟩, rfl⟩
  go_wp2_with (go_at_call 18; refine (count18 h' hn' c').mono ?_; rintro e w' ⟨⟨r, hr0, hr1, hr2, rfl⟩, rfl⟩)
  · go_ret
    exact ⟨rfl, Below.refl _ _⟩
  · have hle : ss.length ≤ 65536 := by omega
    have hle' : tt.length ≤ 65536 := by omega
    refine (clone19 h hle c).mono ?_
    rintro e w1 ⟨a1, c1, rfl, hrd1, hb1⟩
    have hrd' := (h'.below hb1).mono hb1.size
    clear h h' hn hn' hq2 hr2 hrd1
    go_wp2_with (go_at_call 19; refine (clone19 hrd' hle' c').mono ?_; rintro e w2 ⟨a2, c2, rfl, hrd2, hb2⟩)
    have HB : Hid (Below w.heap.size w w2) := hb1.trans (hb2.mono hb1.size)
    clear hrd' hrd2 hb1 hb2 hle hle'
    refine (named20_nil p0 w2).mono ?_
    rintro e w' ⟨rfl, rfl⟩
    go_wp2_with fail
    refine (named20_some p0 p1 w2.heap.size _ (by simp) m0 m1).mono ?_
    rintro e w' ⟨A, rfl, hA, rfl⟩
    go_wp2_with fail
    refine (named20_some p0 p4 (w2.heap.size + 1) _ (by simp) m0 m4).mono ?_
    rintro e w' ⟨A', rfl, hA', rfl⟩
    have e1 := same_iff hA hA'
    have e2 := not_bare hA
    have e3 := not_bare hA'
    clear hA hA'
    go_wp2
    go_ret
    exact ⟨rfl, (HB.out.alloc HB.out.size _).alloc (by have := HB.out.size; simp; omega) _⟩
end Go.Proofs.Qxb6600359aMods
