/-
  FnEnabledKeysExact (8): the walk.
-/
import Derived.Test.Qxb6000482aModsEnabled
import Derived.BigQuiet
namespace Go.Proofs.Qxb6000482aMods
open Go.RowKit

/-! ### THE PLAIN LAW -/
theorem places_all (ss : List ByteArray) : ∀ k j, j < (places ss k).length → (places ss k).getD j 0 < k ∧ en (ss.getD ((places ss k).getD j 0) ByteArray.empty) = true := by
  intro k j hj
  rw [List.getD, List.getElem?_eq_getElem hj]
  have hm : (places ss k)[j] ∈ places ss k := List.getElem_mem hj
  have := List.mem_filter.1 hm
  exact ⟨List.mem_range.1 this.1, this.2⟩
theorem places_mono (ss : List ByteArray) (k : Nat) : (places ss k).Pairwise (· < ·) := List.Pairwise.filter _ List.pairwise_lt_range
theorem places_step (ss : List ByteArray) (k j : Nat) (hj : j + 1 < (places ss k).length) : (places ss k).getD j 0 < (places ss k).getD (j + 1) 0 := by
  rw [List.getD, List.getD, List.getElem?_eq_getElem hj, List.getElem?_eq_getElem (by omega)]
  exact List.pairwise_iff_getElem.1 (places_mono ss k) j (j + 1) (by omega) hj (by omega)
theorem places_count (ss : List ByteArray) (k : Nat) {s : ByteArray} (hs : s = ss.getD k ByteArray.empty) : (places ss (k + 1)).length = (places ss k).length + if (s.toList == [101, 110, 97, 98, 108, 101, 100]) = true then 1 else 0 := by
  rw [places_succ, ← hs]
  unfold en
  split <;> simp

theorem num_eq {a b : Int} (h : a = b) : Value.int .i64 a = .int .i64 b := by rw [h]

theorem drawn {B : Nat} {a w : World} (h : Below B a w) (q : Nat) : Below B a (w.drewN q) := ⟨h.os, h.tape, h.output, h.size, h.block⟩

set_option maxHeartbeats 1000000 in
theorem exact_any (a : Option Addr) (c : Nat) (ss : List ByteArray) (w : World) (h : Reads w w.heap.size a ss) (hn : ss.length * 16 ≤ 140737488351232) :
    Calls Trym.prog 8 #[.slice a ss.length c] w fun e w' => e = .returned (.bool true) ∧ Below w.heap.size w w' := by
  obtain ⟨n, hnn⟩ : ∃ n, n = ss.length := ⟨_, rfl⟩
  have H23 := bytes23 h hn c
  by_cases hbig : 65536 < ss.length
  · go_enter Trym.func8, Trym.ntmps8
    go_wp2_with (go_at_call 23; refine H23.mono ?_; rintro e w' ⟨hib, rfl⟩; rcases hib with rfl | ⟨rfl, hsh⟩)
    all_goals go_ret
    all_goals exact ⟨rfl, Below.refl _ _⟩
  · have hle : ss.length ≤ 65536 := by omega
    clear hbig
    go_enter Trym.func8, Trym.ntmps8
    go_wp2_with (first | (go_at_call 23; refine H23.mono ?_; rintro e w' ⟨hib, rfl⟩; rcases hib with rfl | ⟨rfl, hsh⟩) | (go_at_call 11; refine (count11 h hle hsh c).mono ?_; rintro e w' ⟨⟨q, hq0, hq1, rfl⟩, rfl⟩))
    · go_ret
      exact ⟨rfl, Below.refl _ _⟩
    · go_ret
      exact ⟨rfl, Below.refl _ _⟩
    · refine (clone12 h hle c).mono ?_
      rintro e w1 ⟨a1, c1, rfl, hrd1, hb1⟩
      clear h H23 hn
      go_wp2_with (first | (go_at_call 25; refine (keys25 hrd1 hle c1).mono ?_; rintro e w2 ⟨rfl, hky, hb2⟩) | (go_at_call 24; refine (enabled24 hky hle).mono ?_; rintro e w3 ⟨ao, cap, rfl, hgot, hb3⟩))
      have hb13 : Below w1.heap.size w1 w3 := hb2.trans (hb3.mono hb2.size)
      have hrd3 := hrd1.below hb13
      have HB : Hid (Below w.heap.size w w3) := hb1.trans (hb13.mono hb1.size)
      have hsz13 : w1.heap.size ≤ w3.heap.size := hb13.size
      clear hky hb1 hb2 hb3 hb13 hrd1 hsh
      by_cases h0 : 0 < ss.length
      · obtain ⟨b1, off1, rfl, hlt1, hc1⟩ := hrd3.1 h0
        clear hrd3
        go_loop [4, 5] (fun cnt i => ∃ k : Nat, k ≤ ss.length ∧ i = .int .i64 k ∧ cnt = .int .i64 ((places ss k).length : Int)) (fun _ i => ss.length - (intOf i).toNat)
        case atStart => exact ⟨0, Nat.zero_le _, rfl, rfl⟩
        case round =>
          obtain ⟨k, hk, rfl, rfl⟩ := hrel
          have hpl := places_le ss k
          by_cases hlt : k < ss.length
          · obtain ⟨s, hs⟩ : ∃ s, s = ss.getD k ByteArray.empty := ⟨_, rfl⟩
            have hcx : w3.cell? ⟨b1, off1 + k, none⟩ = some (.string s) := by rw [hs]; exact hc1 k hlt
            have HC : Hid _ := places_count ss k hs
            clear hs hc1 hgot
            go_wp2
            · have he : (s.toList == [101, 110, 97, 98, 108, 101, 100]) = true := by assumption
              go_round
              case rel => exact ⟨k + 1, by omega, by go_num, num_eq (by rw [HC.out, if_pos he]; omega)⟩
              case measure => simp [intOf]; omega
            · have he : (s.toList == [101, 110, 97, 98, 108, 101, 100]) = false := by assumption
              go_round
              case rel => exact ⟨k + 1, by omega, by go_num, num_eq (by rw [HC.out, he]; simp)⟩
              case measure => simp [intOf]; omega
          · have hkn : k = ss.length := by omega
            subst hkn
            clear hk hlt
            go_wp2
            by_cases hl0 : 0 < (places ss ss.length).length
            · obtain ⟨g, rfl, hg, hcl⟩ := hgot hl0
              clear hgot
              go_loopw [6] (fun i wr => ∃ j : Nat, j ≤ (places ss ss.length).length ∧ i = .int .i64 j ∧ Below w3.heap.size w3 wr) (fun i _ => (places ss ss.length).length - (intOf i).toNat)
              case atStart => exact ⟨0, Nat.zero_le _, rfl, Below.refl _ _⟩
              case round =>
                obtain ⟨j, hj, rfl, hbw⟩ := hrel
                by_cases hjl : j < (places ss ss.length).length
                · obtain ⟨p, hp⟩ : ∃ p, p = (places ss ss.length).getD j 0 := ⟨_, rfl⟩
                  have hpa := places_all ss ss.length j hjl
                  rw [← hp] at hpa
                  have hpn : p < ss.length := hpa.1
                  obtain ⟨s, hs⟩ : ∃ s, s = ss.getD p ByteArray.empty := ⟨_, rfl⟩
                  have hse : (s.toList == [101, 110, 97, 98, 108, 101, 100]) = true := by rw [hs]; exact hpa.2
                  have hsn : (s.toList != [101, 110, 97, 98, 108, 101, 100]) = false := by rw [bne, hse]; rfl
                  have hcp : wr.cell? ⟨g, j, none⟩ = some (.int .i64 (p : Int)) := by rw [hp]; exact (hbw.cell (by exact hg)).trans (hcl j hjl)
                  have hcs : wr.cell? ⟨b1, off1 + p, none⟩ = some (.string s) := by rw [hs, hbw.cell (by exact Nat.lt_of_lt_of_le hlt1 hsz13)]; exact hc1 p hpn
                  by_cases hj0 : j = 0
                  · subst hj0
                    clear hs hp hpa hc1 hcl
                    go_wp2
                    go_quiet (fail)
                    go_wp2
                    go_roundw
                    case rel => exact ⟨1, by omega, by go_num, drawn hbw _⟩
                    case measure => simp [intOf]; omega
                  · obtain ⟨i, rfl⟩ : ∃ i, j = i + 1 := ⟨j - 1, by omega⟩
                    obtain ⟨p', hp'⟩ : ∃ p', p' = (places ss ss.length).getD i 0 := ⟨_, rfl⟩
                    have hcp' : wr.cell? ⟨g, i, none⟩ = some (.int .i64 (p' : Int)) := by rw [hp']; exact (hbw.cell (by exact hg)).trans (hcl i (by omega))
                    have hpp : p' < p := by rw [hp, hp']; exact places_step ss ss.length i hjl
                    clear hs hp hp' hpa hc1 hcl
                    have hpos : (0 : Int) < (i : Int) + 1 := by omega
                    go_wp2
                    go_quiet (fail)
                    go_wp2
                    go_roundw
                    case rel => exact ⟨i + 1 + 1, by omega, by go_num, drawn hbw _⟩
                    case measure => simp [intOf]; omega
                · clear hcl hc1
                  go_wp2
                  go_ret
                  exact ⟨rfl, HB.out.trans (hbw.mono HB.out.size)⟩
            · clear hgot hc1
              have hz : (places ss ss.length).length = 0 := by omega
              refine wp_loop_rounds 1 ?_
              rw [rounds_succ]
              go_wp2
              go_ret
              exact ⟨rfl, HB.out⟩
      · clear hrd3
        have hz : ss.length = 0 := by omega
        have hz' : (places ss ss.length).length = 0 := by have := places_le ss ss.length; omega
        refine wp_loop_rounds 1 ?_
        rw [rounds_succ]
        go_wp2
        refine wp_loop_rounds 1 ?_
        rw [rounds_succ]
        go_wp2
        go_ret
        exact ⟨rfl, HB.out⟩
end Go.Proofs.Qxb6000482aMods
