/-
  FnTokenSetWithExact (3): the walk where there is no text, and where there are too many; all together.
-/
import Derived.Test.Qxb6000482aModsTokenSet
namespace Go.Proofs.Qxb6000482aMods
open Go.RowKit Go.Maps Go.WideMaps

theorem exact3_big (x : Bool) (a : Option Addr) (c : Nat) (ss : List ByteArray) (h : ByteArray) (w : World) (hr : Reads w w.heap.size a ss) (hn : ss.length * 16 ≤ 140737488351232) (hh : h.size ≤ maxLen) (hbig : 65536 < ss.length) :
    Calls Trym.prog 3 #[.slice a ss.length c, .string h, .bool x] w fun e w' => e = .returned (.bool true) ∧ Below w.heap.size w w' := by
  have H10 := bytes10 hr hn c h x hh
  go_enter Trym.func3, Trym.ntmps3
  go_wp2_with (go_at_call 10; refine H10.mono ?_; rintro e w' ⟨hib, rfl⟩; rcases hib with rfl | ⟨rfl, hsh⟩)
  all_goals go_ret
  all_goals exact ⟨rfl, Below.refl _ _⟩

set_option maxHeartbeats 1000000 in
theorem exact3_nil (x : Bool) (a : Option Addr) (c : Nat) (h : ByteArray) (w : World) (hr : Reads w w.heap.size a []) (hh : h.size ≤ maxLen) :
    Calls Trym.prog 3 #[.slice a 0 c, .string h, .bool x] w fun e w' => e = .returned (.bool true) ∧ Below w.heap.size w w' := by
  have H10 := bytes10_nil a c h x w hh
  have H11 := count11_nil a c w
  have H12 := clone12 (ss := []) hr (by simp) c
  have hh' := hh
  unfold maxLen at hh'
  go_enter Trym.func3, Trym.ntmps3
  go_wp2_with (first
    | (go_at_call 10; refine H10.mono ?_; rintro e w' ⟨hib, rfl⟩; rcases hib with rfl | ⟨rfl, hsh⟩)
    | (go_at_call 11; refine H11.mono ?_; rintro e w' ⟨⟨q, hq0, hq1, rfl⟩, rfl⟩))
  · go_ret
    exact ⟨rfl, Below.refl _ _⟩
  · go_ret
    exact ⟨rfl, Below.refl _ _⟩
  · go_ret
    exact ⟨rfl, Below.refl _ _⟩
  · refine H12.mono ?_
    rintro e w1 ⟨a1, c1, rfl, hrd1, hbw1⟩
    clear hr H10 H11 H12
    have H13 := set13d (ss := []) hrd1 (by simp) c1
    clear hrd1
    go_wp2_with (first | (go_at_call 13; refine H13.mono ?_; rintro e w2 ⟨m, D, rfl, hown, hm, hsz, hall, hbw2⟩; clear H13 hall) | (at_len; refine wpList_len_own _ rfl (.tmp 37) 27 rfl 9 46 Trym.underlying27 unitElem m _ _ rfl hown ?_))
    obtain ⟨had, hhad⟩ : ∃ had, Maps.has D (keyS h) = had := ⟨_, rfl⟩
    refine (has14b m _ D h _ hown hh _ hhad).mono ?_
    rintro e w3 ⟨rfl, hbw3⟩
    have hown3 := own_below hown hbw3 hm
    have hm3 : m < w3.heap.size := Nat.lt_of_lt_of_le hm hbw3.size
    go_wp2_with (go_at_call 15; refine (with15d m _ D h x had _ hown3 hsz hh hhad).mono ?_; rintro e w4 ⟨m', n', D', rfl, hown4, hm4, hself, hoth, HSZ, hbw4⟩)
    refine (has14b m' _ D' h _ hown4 hh _ hself).mono ?_
    rintro e w5 ⟨rfl, hbw5⟩
    have oD' := own_below hown4 hbw5 hm4
    have oD := own_below (own_below hown3 hbw4 hm3) hbw5 (Nat.lt_of_lt_of_le hm3 hbw4.size)
    have h15 : Below w1.heap.size w1 w5 := ((hbw2.trans (hbw3.mono hbw2.size)).trans (hbw4.mono (Nat.le_trans hbw2.size hbw3.size))).trans (hbw5.mono (Nat.le_trans hbw2.size (Nat.le_trans hbw3.size hbw4.size)))
    have HB : Hid (Below w.heap.size w w5) := hbw1.trans (h15.mono hbw1.size)
    have H14 := has14b m _ D h w5 oD hh had hhad
    clear hown hm hbw2 hbw3 hown3 hm3 hown4 hm4 hbw4 hbw5 h15 hbw1 hq0 hq1 hself hoth
    go_wp2
    refine wp_loop_rounds 1 ?_
    rw [rounds_succ]
    cases x <;> cases had
    all_goals
      have d1 := HSZ.out
      simp at d1
      have d2 := Int.le_of_eq d1
      have d3 := Int.le_of_eq d1.symm
      clear d1
      go_wp2_with (first
        | (at_len; refine wpList_len_own _ rfl (.tmp 87) 27 rfl 9 46 Trym.underlying27 unitElem m' _ _ rfl oD' ?_)
        | (at_len; refine wpList_len_own _ rfl (.tmp 91) 27 rfl 9 46 Trym.underlying27 unitElem m _ _ rfl oD ?_)
        | (go_at_call 14; refine H14.mono ?_; rintro e w6 ⟨rfl, hb6⟩))
      refine wp_loop_rounds 1 ?_
      rw [rounds_succ]
      go_wp2
      go_ret
      exact ⟨rfl, HB.out.trans (hb6.mono HB.out.size)⟩

theorem exact3_any (x : Bool) (a : Option Addr) (c : Nat) (ss : List ByteArray) (h : ByteArray) (w : World) (hr : Reads w w.heap.size a ss) (hn : ss.length * 16 ≤ 140737488351232) (hh : h.size ≤ maxLen) :
    Calls Trym.prog 3 #[.slice a ss.length c, .string h, .bool x] w fun e w' => e = .returned (.bool true) ∧ Below w.heap.size w w' := by
  by_cases hbig : 65536 < ss.length
  · exact exact3_big x a c ss h w hr hn hh hbig
  · by_cases h0 : 0 < ss.length
    · exact exact3_pos x a c ss h w hr hn hh h0 (by omega)
    · have hnil : ss = [] := List.length_eq_zero_iff.1 (by omega)
      subst hnil
      exact exact3_nil x a c h w hr hh
end Go.Proofs.Qxb6000482aMods
