/-
  FnTokenSetWithExact (3): zzBytes_FnTokenSetWithExact (10) by its contract, the plain law, the walk.
-/
import Derived.Test.Qxb6000482aModsWith
namespace Go.Proofs.Qxb6000482aMods
open Go.RowKit Go.Maps Go.WideMaps

theorem bytes10_nil (a : Option Addr) (c : Nat) (h : ByteArray) (x : Bool) (w : World) (hh : h.size ≤ maxLen) :
    Calls Trym.prog 10 #[.slice a 0 c, .string h, .bool x] w fun e w' => IsBool (Short [] 0) e ∧ w = w' := by
  unfold maxLen at hh
  go_enter Trym.func10, Trym.ntmps10
  go_wp2
  refine wp_loop_rounds 1 ?_
  rw [rounds_succ]
  go_wp2
  all_goals go_ret
  all_goals first | exact ⟨.inl rfl, rfl⟩ | exact ⟨.inr ⟨rfl, Short.zero _⟩, rfl⟩

theorem bytes10_some (b off n c : Nat) (h : ByteArray) (x : Bool) (ss : List ByteArray) (w : World) (hn : n * 16 ≤ 140737488351232) (hz : ∀ i, (ss.getD i ByteArray.empty).size ≤ maxLen) (hh : h.size ≤ maxLen)
    (hc : ∀ i, i < n → w.cell? ⟨b, off + i, none⟩ = some (.string (ss.getD i ByteArray.empty))) :
    Calls Trym.prog 10 #[.slice (some ⟨b, off, none⟩) n c, .string h, .bool x] w fun e w' => IsBool (Short ss n) e ∧ w = w' := by
  unfold maxLen at hz hh
  go_enter Trym.func10, Trym.ntmps10
  go_wp2
  · go_ret
    exact ⟨.inl rfl, rfl⟩
  · go_loop [7, 8] (fun z i => ∃ (k : Nat) (q : Int), k ≤ n ∧ i = .int .i64 k ∧ z = .int .i64 q ∧ 0 ≤ q ∧ q ≤ 1048576 ∧ Short ss k) (fun _ i => n - (intOf i).toNat)
    case atStart => exact ⟨0, _, Nat.zero_le _, rfl, rfl, by omega, by omega, Short.zero _⟩
    case round =>
      obtain ⟨k, q, hk, rfl, rfl, hq0, hq1, hsh⟩ := hrel
      by_cases hlt : k < n
      · obtain ⟨s, hs⟩ : ∃ s, s = ss.getD k ByteArray.empty := ⟨_, rfl⟩
        have hcx : w.cell? ⟨b, off + k, none⟩ = some (.string s) := by rw [hs]; exact hc k hlt
        have hsz : s.size ≤ 9223372036854775807 := by rw [hs]; exact hz k
        have HS : Hid (s = ss.getD k ByteArray.empty) := hs
        clear hs hc hz
        go_wp2
        · go_ret
          exact ⟨.inl rfl, rfl⟩
        · go_ret
          exact ⟨.inl rfl, rfl⟩
        · go_round
          case rel => exact ⟨k + 1, _, by omega, by go_num, rfl, by omega, by omega, hsh.succ (by rw [← HS.out]; omega)⟩
          case measure => simp [intOf]; omega
      · clear hc hz
        have hkn : k = n := by omega
        have HN : Hid (k = n) := hkn
        clear hkn
        go_wp2
        all_goals go_ret
        all_goals first | exact ⟨.inl rfl, rfl⟩ | exact ⟨.inr ⟨rfl, HN.out ▸ hsh⟩, rfl⟩

theorem bytes10 {w : World} {B : Nat} {a : Option Addr} {ss : List ByteArray} (hr : Reads w B a ss) (hn : ss.length * 16 ≤ 140737488351232) (c : Nat) (h : ByteArray) (x : Bool) (hh : h.size ≤ maxLen) :
    Calls Trym.prog 10 #[.slice a ss.length c, .string h, .bool x] w fun e w' => IsBool (Short ss ss.length) e ∧ w = w' := by
  by_cases h0 : 0 < ss.length
  · obtain ⟨b, off, rfl, _, hc⟩ := hr.1 h0
    exact bytes10_some b off _ c h x ss w hn (size_getD hr.2) hh hc
  · have hnil : ss = [] := List.length_eq_zero_iff.1 (by omega)
    rw [hnil]
    exact bytes10_nil a c h x w hh

/-! ### THE PLAIN LAW -/
theorem after_self (D : Ghost) (h : ByteArray) (x : Bool) (hD : IsMap D) : Maps.has (After D h x) (keyS h) = x := by
  cases x with
  | true => exact has_put_same hD (keyS_is h) _
  | false => exact has_del_same
theorem after_other (D : Ghost) (h s : ByteArray) (x : Bool) (hne : (s.toList == h.toList) = false) : Maps.has (After D h x) (keyS s) = Maps.has D (keyS s) := by
  have e : keyS s ≠ keyS h := fun e => by
    have e' : s.data.toList = h.data.toList := by simpa [keyS] using e
    rw [ByteArray.toList_eq, ByteArray.toList_eq, e'] at hne
    simp at hne
  cases x with
  | true => exact has_put_other e _
  | false => exact has_del_other e
theorem after_size (D : Ghost) (h : ByteArray) (x had : Bool) (hT : Tidy D) (hh : Maps.has D (keyS h) = had) :
    (Maps.size (After D h x) : Int) = Maps.size D + (if x && !had then 1 else 0) - (if !x && had then 1 else 0) := by
  cases x with
  | true =>
    show ((Maps.size (D.put (keyS h) (.agg [])) : Nat) : Int) = _
    rw [size_put hT, hh]
    cases had <;> simp
  | false =>
    have := size_del (k := keyS h) hT
    rw [hh] at this
    show ((Maps.size (D.del (keyS h)) : Nat) : Int) = _
    cases had <;> simp at this ⊢ <;> omega

/-! ### THE CALLEES AS THE LAW MEETS THEM -/
theorem has14b (b n : Nat) (D : Ghost) (s : ByteArray) (w : World) (hown : w.ownsMap Trym.prog 9 unitElem b n D) (hs : s.size ≤ maxLen) (x : Bool) (hx : Maps.has D (keyS s) = x) :
    Calls Trym.prog 14 #[.map (some b), .string s] w fun e w' => e = .returned (.bool x) ∧ Below w.heap.size w w' :=
  (has14 b n D s w hown hs x hx).mono fun _ _ ⟨h1, h2⟩ => ⟨h1, h2 ▸ (Below.refl _ _).alloc (Nat.le_refl _) _⟩

/-- The copy of a slice that is not empty. -/
theorem clone12_pos {w : World} {a : Option Addr} {ss : List ByteArray} (h : Reads w w.heap.size a ss) (hn : ss.length ≤ 65536) (h0 : 0 < ss.length) (c : Nat) :
    Calls Trym.prog 12 #[.slice a ss.length c] w fun e w' => ∃ b off c', e = .returned (.slice (some ⟨b, off, none⟩) ss.length c') ∧ Reads w' w'.heap.size (some ⟨b, off, none⟩) ss ∧ b < w'.heap.size ∧
      (∀ i, i < ss.length → w'.cell? ⟨b, off + i, none⟩ = some (.string (ss.getD i ByteArray.empty))) ∧ Below w.heap.size w w' :=
  (clone12 h hn c).mono fun e w' ⟨a', c', he, hr, hb⟩ => by
    obtain ⟨b, off, rfl, hlt, hc⟩ := hr.1 h0
    exact ⟨b, off, c', he, hr, hlt, hc, hb⟩

/-- The set that zzSet makes, under a name. -/
theorem set13d {w : World} {a : Option Addr} {ss : List ByteArray} (h : Reads w w.heap.size a ss) (hn : ss.length ≤ 65536) (c : Nat) :
    Calls Trym.prog 13 #[.slice a ss.length c] w fun e w' => ∃ (m : Nat) (D : Ghost), e = .returned (.map (some m)) ∧ w'.ownsMap Trym.prog 9 unitElem m ss.length D ∧ m < w'.heap.size ∧ Maps.size D ≤ 65536 ∧
      (∀ j, j < ss.length → Maps.has D (keyS (ss.getD j ByteArray.empty)) = true) ∧ Below w.heap.size w w' :=
  (set13 h hn c).mono fun _ _ ⟨he, hown, hb⟩ => ⟨_, _, he, hown, hown.lt, Nat.le_trans hown.size_le hn, fun j hj => has_Sn ss j hj, hb⟩

/-- The set that 'with' makes, under a name. -/
theorem with15d (b n : Nat) (D : Ghost) (h : ByteArray) (x had : Bool) (w : World) (hown : w.ownsMap Trym.prog 9 unitElem b n D) (hmax : Maps.size D ≤ 65536) (hs : h.size ≤ maxLen) (hh : Maps.has D (keyS h) = had) :
    Calls Trym.prog 15 #[.map (some b), .string h, .bool x] w fun e w' => ∃ (m n' : Nat) (D' : Ghost), e = .returned (.map (some m)) ∧ w'.ownsMap Trym.prog 9 unitElem m n' D' ∧ m < w'.heap.size ∧ Maps.has D' (keyS h) = x ∧
      (∀ s : ByteArray, (s.toList == h.toList) = false → Maps.has D' (keyS s) = Maps.has D (keyS s)) ∧ Hid ((Maps.size D' : Int) = Maps.size D + (if x && !had then 1 else 0) - (if !x && had then 1 else 0)) ∧ Below w.heap.size w w' :=
  (with15 b n D h x w hown hmax hs).mono fun _ _ ⟨he, hown', hb⟩ => ⟨_, _, _, he, hown', hown'.lt, after_self D h x hown.isMap, fun s hne => after_other D h s x hne, after_size D h x had (hown.tidy law9) hh, hb⟩

set_option maxHeartbeats 2000000 in
theorem exact3_pos (x : Bool) (a : Option Addr) (c : Nat) (ss : List ByteArray) (h : ByteArray) (w : World) (hr : Reads w w.heap.size a ss) (hn : ss.length * 16 ≤ 140737488351232) (hh : h.size ≤ maxLen) (h0 : 0 < ss.length) (hle : ss.length ≤ 65536) :
    Calls Trym.prog 3 #[.slice a ss.length c, .string h, .bool x] w fun e w' => e = .returned (.bool true) ∧ Below w.heap.size w w' := by
  have H10 := bytes10 hr hn c h x hh
  have hh' := hh
  unfold maxLen at hh'
  go_enter Trym.func3, Trym.ntmps3
  go_wp2_with (first
    | (go_at_call 10; refine H10.mono ?_; rintro e w' ⟨hib, rfl⟩; rcases hib with rfl | ⟨rfl, hsh⟩)
    | (go_at_call 11; refine (count11 hr hle hsh c).mono ?_; rintro e w' ⟨⟨q, hq0, hq1, rfl⟩, rfl⟩))
  · go_ret
    exact ⟨rfl, Below.refl _ _⟩
  · go_ret
    exact ⟨rfl, Below.refl _ _⟩
  · go_ret
    exact ⟨rfl, Below.refl _ _⟩
  · refine (clone12_pos hr hle h0 c).mono ?_
    rintro e w1 ⟨b1, off1, c1, rfl, hrd1, hb1, hc1, hbw1⟩
    clear hr H10 hn
    have hz := size_getD hrd1.2
    go_wp2_with (first | (go_at_call 13; refine (set13d hrd1 hle c1).mono ?_; rintro e w2 ⟨m, D, rfl, hown, hm, hsz, hall, hbw2⟩; clear hrd1 hsh) | (at_len; refine wpList_len_own _ rfl (.tmp 37) 27 rfl 9 46 Trym.underlying27 unitElem m _ _ rfl hown ?_))
    obtain ⟨had, hhad⟩ : ∃ had, Maps.has D (keyS h) = had := ⟨_, rfl⟩
    refine (has14b m _ D h _ hown hh _ hhad).mono ?_
    rintro e w3 ⟨rfl, hbw3⟩
    have hown3 := own_below hown hbw3 hm
    have hm3 : m < w3.heap.size := Nat.lt_of_lt_of_le hm hbw3.size
    go_wp2_with (go_at_call 15; refine (with15d m _ D h x had _ hown3 hsz hh hhad).mono ?_; rintro e w4 ⟨m', n', D', rfl, hown4, hm4, hself, hoth, HSZ, hbw4⟩)
    refine (has14b m' _ D' h _ hown4 hh _ hself).mono ?_
    rintro e w5 ⟨rfl, hbw5⟩
    have hD' := own_below hown4 hbw5 hm4
    have hm5 : m' < w5.heap.size := Nat.lt_of_lt_of_le hm4 hbw5.size
    have hD := own_below (own_below hown3 hbw4 hm3) hbw5 (Nat.lt_of_lt_of_le hm3 hbw4.size)
    have hm5' : m < w5.heap.size := Nat.lt_of_lt_of_le hm3 (Nat.le_trans hbw4.size hbw5.size)
    have h15 : Below w1.heap.size w1 w5 := ((hbw2.trans (hbw3.mono hbw2.size)).trans (hbw4.mono (Nat.le_trans hbw2.size hbw3.size))).trans (hbw5.mono (Nat.le_trans hbw2.size (Nat.le_trans hbw3.size hbw4.size)))
    have hc5 : ∀ i, i < ss.length → w5.cell? ⟨b1, off1 + i, none⟩ = some (.string (ss.getD i ByteArray.empty)) := fun i hi => (h15.cell (p := ⟨b1, off1 + i, none⟩) hb1).trans (hc1 i hi)
    have hb5 : b1 < w5.heap.size := Nat.lt_of_lt_of_le hb1 h15.size
    have HB : Hid (Below w.heap.size w w5) := hbw1.trans (h15.mono hbw1.size)
    clear hown hm hbw2 hbw3 hown3 hm3 hown4 hm4 hbw4 hbw5 h15 hc1 hb1 hbw1 hq0 hq1
    go_wp2
    go_loopw [11] (fun i wr => ∃ k : Nat, k ≤ ss.length ∧ i = .int .i64 k ∧ Below w5.heap.size w5 wr) (fun i _ => ss.length - (intOf i).toNat)
    case atStart => exact ⟨0, Nat.zero_le _, rfl, Below.refl _ _⟩
    case round =>
      obtain ⟨k, hk, rfl, hbw⟩ := hrel
      by_cases hlt : k < ss.length
      · obtain ⟨s, hs⟩ : ∃ s, s = ss.getD k ByteArray.empty := ⟨_, rfl⟩
        have hcx : wr.cell? ⟨b1, off1 + k, none⟩ = some (.string s) := by rw [hs, hbw.cell (by exact hb5)]; exact hc5 k hlt
        have hsl : s.size ≤ maxLen := by rw [hs]; exact hz k
        have hin : Maps.has D (keyS s) = true := by rw [hs]; exact hall k hlt
        by_cases he : (s.toList == h.toList) = true
        · clear hs hc5 hz hall hD' hD hhad hself hoth hin
          go_wp2
          go_roundw
          case rel => exact ⟨k + 1, by omega, by go_num, hbw⟩
          case measure => simp [intOf]; omega
        · have he' : (s.toList == h.toList) = false := by simpa using he
          have H14 := has14b m' _ D' s wr (own_below hD' hbw hm5) hsl true (by rw [hoth s he', hin])
          clear hs hc5 hz hall hD' hD hhad hself hoth hin he
          go_wp2_with (go_at_call 14; refine H14.mono ?_; rintro e w6 ⟨rfl, hb6⟩)
          go_roundw
          case rel => exact ⟨k + 1, by omega, by go_num, hbw.trans (hb6.mono hbw.size)⟩
          case measure => simp [intOf]; omega
      · have hkn : k = ss.length := by omega
        subst hkn
        clear hk hlt
        have oD' := own_below hD' hbw hm5
        have oD := own_below hD hbw hm5'
        have H14 := has14b m _ D h wr oD hh had hhad
        clear hD' hself hoth
        cases x <;> cases had
        all_goals
          have d1 := HSZ.out
          simp at d1
          have d2 := Int.le_of_eq d1
          have d3 := Int.le_of_eq d1.symm
          clear d1
          go_wp2_with (first
            | (at_len; refine wpList_len_own _ rfl (.tmp 87) 27 rfl 9 46 Trym.underlying27 unitElem m' _ _ rfl oD' ?_)
            | (at_len; refine wpList_len_own _ rfl (.tmp 91) 27 rfl 9 46 Trym.underlying27 unitElem m _ _ rfl oD ?_)
            | (go_at_call 14; refine H14.mono ?_; rintro e w6 ⟨rfl, hb6⟩))
          have hbw6 : Below w5.heap.size w5 w6 := hbw.trans (hb6.mono hbw.size)
          clear oD' oD H14 hb6 hbw HSZ d2 d3
          go_loopw [13] (fun i wr => ∃ k : Nat, k ≤ ss.length ∧ i = .int .i64 k ∧ Below w5.heap.size w5 wr) (fun i _ => ss.length - (intOf i).toNat)
          case atStart => exact ⟨0, Nat.zero_le _, rfl, hbw6⟩
          case round =>
            clear hbw6
            obtain ⟨k, hk, rfl, hbw⟩ := hrel
            by_cases hlt : k < ss.length
            · obtain ⟨s, hs⟩ : ∃ s, s = ss.getD k ByteArray.empty := ⟨_, rfl⟩
              have hcx : wr.cell? ⟨b1, off1 + k, none⟩ = some (.string s) := by rw [hs, hbw.cell (by exact hb5)]; exact hc5 k hlt
              have hsl : s.size ≤ maxLen := by rw [hs]; exact hz k
              have H14 := has14b m _ D s wr (own_below hD hbw hm5') hsl true (by rw [hs]; exact hall k hlt)
              clear hs hc5 hz hall hD hhad
              go_wp2_with (go_at_call 14; refine H14.mono ?_; rintro e w7 ⟨rfl, hb7⟩)
              go_roundw
              case rel => exact ⟨k + 1, by omega, by go_num, hbw.trans (hb7.mono hbw.size)⟩
              case measure => simp [intOf]; omega
            · clear hc5 hz hall hD hhad
              go_wp2
              go_ret
              exact ⟨rfl, HB.out.trans (hbw.mono HB.out.size)⟩
end Go.Proofs.Qxb6000482aMods
