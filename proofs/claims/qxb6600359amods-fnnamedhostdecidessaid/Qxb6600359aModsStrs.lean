/-
  A slice of strings that is only read, and a copy of one: 'Reads'; nmBytes (18), nmClone (19), zzBytes_FnNamedHostDecides (17) by their contracts.
-/
import Derived.Test.Qxb6600359aModsRows
import Derived.WalkKit
import Derived.ProofKit
import Derived.Lib.SliceRun
import Derived.WalkSpells
namespace Go.Proofs.Qxb6600359aMods
open Go.RowKit

/-- The slice at address a, of ss.length elements, reads as the strings ss in the world w; its cells lie below block B. -/
def Reads (w : World) (B : Nat) (a : Option Addr) (ss : List ByteArray) : Prop :=
  (0 < ss.length → ∃ b off, a = some ⟨b, off, none⟩ ∧ b < B ∧ ∀ i, i < ss.length → w.cell? ⟨b, off + i, none⟩ = some (.string (ss.getD i ByteArray.empty))) ∧ ∀ s ∈ ss, s.size ≤ maxLen

theorem Reads.below {w w' : World} {B : Nat} {a : Option Addr} {ss : List ByteArray} (h : Reads w B a ss) (hb : Below B w w') : Reads w' B a ss := by
  refine ⟨fun hp => ?_, h.2⟩
  obtain ⟨b, off, ha, hlt, hc⟩ := h.1 hp
  exact ⟨b, off, ha, hlt, fun i hi => (hb.cell (p := ⟨b, off + i, none⟩) hlt).trans (hc i hi)⟩

theorem size_getD {ss : List ByteArray} (h : ∀ s ∈ ss, s.size ≤ maxLen) (i : Nat) : (ss.getD i ByteArray.empty).size ≤ maxLen := by
  rw [List.getD]
  cases e : ss[i]? with
  | none => simp [maxLen]
  | some s => exact h s (List.mem_of_getElem? e)

theorem Trym.info9 : (Trym.prog.info? 9).map (fun i => (i.zero, i.size, i.bytes)) = some (some (.string ByteArray.empty), 1, 16) := by kernel_rfl

theorem nilTest23 (w : World) (a : Option Addr) (n c n' c' : Nat) : (binOp .eql 23 (.slice a n c) (.slice none n' c')).run Trym.prog w = .ok (.bool a.isNone) w :=
  Lib.run_eql_slice_nil w _ _ a n c n' c' Trym.underlying23

theorem clone_nil (w : World) (c : Nat) : Calls Trym.prog 19 #[.slice none 0 c] w fun e w' => e = .returned (.slice none 0 0) ∧ w = w' := by
  have q23 := nilTest23
  go_enter Trym.func19, Trym.ntmps19
  go_wp2
  go_ret
  exact ⟨rfl, rfl⟩

/-- The first k cells hold the first k strings. -/
def Filled (xs : List Value) (ss : List ByteArray) (k : Nat) : Prop := ∀ j, j < k → xs[j]? = some (.string (ss.getD j ByteArray.empty))
theorem Filled.zero (xs : List Value) (ss : List ByteArray) : Filled xs ss 0 := fun _ h => absurd h (Nat.not_lt_zero _)
theorem Filled.succ {xs : List Value} {ss : List ByteArray} {k : Nat} (h : Filled xs ss k) (hk : k < xs.length) {s : ByteArray} (hs : s = ss.getD k ByteArray.empty) : Filled (xs.set k (.string s)) ss (k + 1) := fun j hj => by
  by_cases e : j = k
  · subst e
    rw [List.getElem?_set_self hk, hs]
  · rw [List.getElem?_set_ne (Ne.symm e)]
    exact h j (by omega)

/-- What the copy has come to. -/
def Copied (w w' : World) (ss : List ByteArray) (n : Nat) : Prop :=
  ∃ xs, w'.ownsRow w.heap.size 9 1 (.slice (some ⟨w.heap.size, 0, none⟩) n n) n xs ∧ Filled xs ss n ∧ Below w.heap.size w w'

theorem clone_empty (ad : Addr) (w : World) (c : Nat) : Calls Trym.prog 19 #[.slice (some ad) 0 c] w fun e w' => e = .returned (.slice (some ⟨w.heap.size, 0, none⟩) 0 0) ∧ Copied w w' [] 0 := by
  have q23 := nilTest23
  obtain ⟨i0, hi, hz0, hz1, hz2⟩ := info_parts Trym.info9
  go_enter Trym.func19, Trym.ntmps19
  go_wp2_with (at_make; refine wpList_make_full _ rfl _ _ 23 rfl w.heap.size 9 i0 (.string ByteArray.empty) 1 Trym.underlying23 hi hz0 hz1 .i64 .i64 _ _ 0 rfl rfl rfl rfl (by rw [hz2]; omega) (by unfold maxLen; omega) (Nat.le_refl _) ?_; intro w1 hown hg)
  refine wp_loop_rounds 1 ?_
  rw [rounds_succ]
  go_wp2
  go_ret
  exact ⟨rfl, _, hown, Filled.zero _ _, (Below.refl _ _).grown hg (Nat.le_refl _) (fun k hk => by cases hk)⟩

theorem clone_some (b off n c : Nat) (ss : List ByteArray) (w : World) (hn : n ≤ 65536) (hb : b < w.heap.size)
    (hc : ∀ i, i < n → w.cell? ⟨b, off + i, none⟩ = some (.string (ss.getD i ByteArray.empty))) :
    Calls Trym.prog 19 #[.slice (some ⟨b, off, none⟩) n c] w fun e w' => e = .returned (.slice (some ⟨w.heap.size, 0, none⟩) n n) ∧ Copied w w' ss n := by
  have q23 := nilTest23
  obtain ⟨i0, hi, hz0, hz1, hz2⟩ := info_parts Trym.info9
  go_enter Trym.func19, Trym.ntmps19
  go_wp2_with (at_make; refine wpList_make_full _ rfl _ _ 23 rfl w.heap.size 9 i0 (.string ByteArray.empty) 1 Trym.underlying23 hi hz0 hz1 .i64 .i64 _ _ n rfl rfl rfl rfl (by rw [hz2]; omega) (by unfold maxLen; omega) (Nat.le_refl _) ?_; intro w1 hown hg)
  have hbw : Below w.heap.size w w1 := (Below.refl _ _).grown hg (Nat.le_refl _) (fun k hk => by cases hk)
  clear hg q23 hi hz0 hz1 hz2
  go_loopw [4] (fun i wr => ∃ (k : Nat) (xs : List Value), k ≤ n ∧ i = .int .i64 k ∧ wr.ownsRow w.heap.size 9 1 (.slice (some ⟨w.heap.size, 0, none⟩) n n) n xs ∧ Filled xs ss k ∧ Below w.heap.size w wr) (fun i _ => n - (intOf i).toNat)
  case atStart => exact ⟨0, _, Nat.zero_le _, rfl, hown, Filled.zero _ _, hbw⟩
  case round =>
    clear hown hbw
    obtain ⟨k, xs, hk, rfl, hown, hfill, hbw⟩ := hrel
    by_cases hlt : k < n
    · obtain ⟨s, hs⟩ : ∃ s, s = ss.getD k ByteArray.empty := ⟨_, rfl⟩
      have hcx : wr.cell? ⟨b, off + k, none⟩ = some (.string s) := by rw [hs, hbw.cell (by exact hb)]; exact hc k hlt
      have hfz := hown.frozenAt k
      have hlen : k < xs.length := by rw [hown.1]; omega
      obtain ⟨v3, hv3⟩ : ∃ v3, wr.cell? ⟨w.heap.size, k, none⟩ = some v3 := ⟨xs[k], by rw [hown.cellAt k (by omega), List.getElem?_eq_getElem hlen]⟩
      have hst := hown.stored k (.string s)
      have HF : Hid (Filled (xs.set k (.string s)) ss (k + 1)) := hfill.succ hlen hs
      have HO : Hid _ := hst.1
      have HB : Hid (Below w.heap.size w (wr.setCell ⟨w.heap.size, k, none⟩ (.string s))) := hbw.setCell (Nat.le_refl _) _
      clear hst hs hc hown hfill hbw
      go_wp2
      go_roundw
      case rel => exact ⟨k + 1, _, by omega, by go_num, HO.out, HF.out, HB.out⟩
      case measure => simp [intOf]; omega
    · clear hc
      have hkn : k = n := by omega
      have HN : Hid (k = n) := hkn
      clear hkn
      go_wp2
      go_ret
      exact ⟨rfl, xs, hown, HN.out ▸ hfill, hbw⟩

/-- The copy, by what it is good for. -/
def Cloned (w : World) (ss : List ByteArray) (e : Ending) (w' : World) : Prop :=
  ∃ a' c', e = .returned (.slice a' ss.length c') ∧ Reads w' w'.heap.size a' ss ∧ Below w.heap.size w w'

theorem Copied.reads {w w' : World} {ss : List ByteArray} (h : Copied w w' ss ss.length) (hz : ∀ s ∈ ss, s.size ≤ maxLen) : Reads w' w'.heap.size (some ⟨w.heap.size, 0, none⟩) ss := by
  obtain ⟨xs, hown, hf, hb⟩ := h
  refine ⟨fun hp => ⟨w.heap.size, 0, rfl, ?_, fun i hi => ?_⟩, hz⟩
  · rcases hown.2 with ⟨h', _⟩ | ⟨g, _, _, h', _, hg, _⟩
    · simp at h'
    · simp only [Value.slice.injEq, Option.some.injEq, Addr.mk.injEq, and_true, true_and] at h'
      rw [h'.1]
      exact (Array.getElem?_eq_some_iff.1 hg).1
  · rw [Nat.zero_add, hown.cellAt i (by omega)]
    exact hf i hi

theorem clone19 {w : World} {a : Option Addr} {ss : List ByteArray} (h : Reads w w.heap.size a ss) (hn : ss.length ≤ 65536) (c : Nat) :
    Calls Trym.prog 19 #[.slice a ss.length c] w fun e w' => Cloned w ss e w' := by
  by_cases h0 : 0 < ss.length
  · obtain ⟨b, off, rfl, hlt, hc⟩ := h.1 h0
    exact (clone_some b off _ c ss w hn hlt hc).mono fun e w' ⟨he, hcp⟩ => ⟨_, _, he, hcp.reads h.2, hcp.choose_spec.2.2⟩
  · have hnil : ss = [] := List.length_eq_zero_iff.1 (by omega)
    subst hnil
    cases a with
    | none => exact (clone_nil w c).mono fun e w' ⟨he, hw⟩ => ⟨none, 0, he, ⟨fun hp => absurd hp (by simp), fun s hs => by cases hs⟩, hw ▸ Below.refl _ _⟩
    | some ad => exact (clone_empty ad w c).mono fun e w' ⟨he, hcp⟩ => ⟨_, _, he, hcp.reads h.2, hcp.choose_spec.2.2⟩

/-! ### nmBytes -/
/-- A number that is not negative; more than 1<<20 where there are more than 1<<12 strings. -/
def IsNum (n : Nat) (e : Ending) : Prop := ∃ q : Int, 0 ≤ q ∧ q ≤ 1073741824 ∧ (n ≤ 4096 ∨ 1048576 < q) ∧ e = .returned (.int .i64 q)

theorem count18 {w : World} {B : Nat} {a : Option Addr} {ss : List ByteArray} (h : Reads w B a ss) (hn : ss.length * 16 ≤ 140737488351232) (c : Nat) :
    Calls Trym.prog 18 #[.slice a ss.length c] w fun e w' => IsNum ss.length e ∧ w = w' := by
  have hz := size_getD h.2
  unfold maxLen at hz
  by_cases hbig : 4096 < ss.length
  · go_enter Trym.func18, Trym.ntmps18
    go_wp2
    go_ret
    exact ⟨⟨_, by omega, by omega, .inr (by omega), rfl⟩, rfl⟩
  go_enter Trym.func18, Trym.ntmps18
  go_wp2
  go_loop [3, 4] (fun z i => ∃ (k : Nat) (q : Int), k ≤ ss.length ∧ i = .int .i64 k ∧ z = .int .i64 q ∧ 0 ≤ q ∧ q ≤ 65536 + 65536 * k) (fun _ i => ss.length - (intOf i).toNat)
  case atStart => exact ⟨0, _, Nat.zero_le _, rfl, rfl, by omega, by omega⟩
  case round =>
    obtain ⟨k, q, hk, rfl, rfl, hq0, hq1⟩ := hrel
    by_cases hlt : k < ss.length
    · obtain ⟨b, off, rfl, _, hc⟩ := h.1 (by omega)
      obtain ⟨s, hs⟩ : ∃ s, s = ss.getD k ByteArray.empty := ⟨_, rfl⟩
      have hcx : w.cell? ⟨b, off + k, none⟩ = some (.string s) := by rw [hs]; exact hc k hlt
      have hsz : s.size ≤ 9223372036854775807 := by rw [hs]; exact hz k
      clear hs hc hz h
      go_wp2
      · go_ret
        exact ⟨⟨_, by omega, by omega, .inr (by omega), rfl⟩, rfl⟩
      · go_round
        case rel => exact ⟨k + 1, _, by omega, by go_num, rfl, by omega, by omega⟩
        case measure => simp [intOf]; omega
    · clear hz h
      go_wp2
      go_ret
      exact ⟨⟨_, by omega, by omega, .inl (by omega), rfl⟩, rfl⟩
end Go.Proofs.Qxb6600359aMods
