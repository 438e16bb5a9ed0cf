/-
  zzKeys (25) and store.EnabledKeys (24) by their contracts.
-/
import Derived.Test.Qxb6000482aModsClone
namespace Go.Proofs.Qxb6000482aMods
open Go.RowKit

theorem Trym.info45 : (Trym.prog.info? 45).map (fun i => (i.zero, i.size, i.bytes)) = some (some (.agg #[.string ByteArray.empty, .string ByteArray.empty, .string ByteArray.empty]), 3, 48) := by kernel_rfl

/-- The first k keys are laid. -/
def Laid (xs : List Value) (ss : List ByteArray) (k : Nat) : Prop :=
  ∀ j, j < k → xs[j * 3]? = some (.string ⟨#[107]⟩) ∧ xs[j * 3 + 1]? = some (.string (ss.getD j ByteArray.empty)) ∧ xs[j * 3 + 2]? = some (.string ⟨#[]⟩)
theorem Laid.zero (xs : List Value) (ss : List ByteArray) : Laid xs ss 0 := fun _ h => absurd h (Nat.not_lt_zero _)

theorem Laid.succ {xs : List Value} {ss : List ByteArray} {k : Nat} (h : Laid xs ss k) (hk : k * 3 + 2 < xs.length) {s : ByteArray} (hs : s = ss.getD k ByteArray.empty) :
    Laid (((xs.set (k * 3) (.string ⟨#[107]⟩)).set (k * 3 + 1) (.string s)).set (k * 3 + 2) (.string ⟨#[]⟩)) ss (k + 1) := fun j hj => by
  by_cases e : j = k
  · subst e
    refine ⟨?_, ?_, ?_⟩
    · rw [List.getElem?_set_ne (by omega), List.getElem?_set_ne (by omega), List.getElem?_set_self (by omega)]
    · rw [List.getElem?_set_ne (by omega), List.getElem?_set_self (by simp; omega), hs]
    · rw [List.getElem?_set_self (by simp; omega)]
  · have hj' := h j (by omega)
    refine ⟨?_, ?_, ?_⟩
    · rw [List.getElem?_set_ne (by omega), List.getElem?_set_ne (by omega), List.getElem?_set_ne (by omega)]; exact hj'.1
    · rw [List.getElem?_set_ne (by omega), List.getElem?_set_ne (by omega), List.getElem?_set_ne (by omega)]; exact hj'.2.1
    · rw [List.getElem?_set_ne (by omega), List.getElem?_set_ne (by omega), List.getElem?_set_ne (by omega)]; exact hj'.2.2

theorem keys_nil (a : Option Addr) (c : Nat) (w : World) :
    Calls Trym.prog 25 #[.slice a 0 c] w fun e w' => e = .returned (.slice (some ⟨w.heap.size, 0, none⟩) 0 0) ∧ w.heap.size < w'.heap.size ∧ Below w.heap.size w w' := by
  obtain ⟨i0, hi, hz0, hz1, hz2⟩ := info_parts Trym.info45
  go_enter Trym.func25, Trym.ntmps25
  go_wp2_with (at_make; refine wpList_make_full _ rfl _ _ 40 rfl w.heap.size 45 i0 (.agg #[.string ByteArray.empty, .string ByteArray.empty, .string ByteArray.empty]) 3 Trym.underlying40 hi hz0 hz1 .i64 .i64 _ _ 0 rfl rfl rfl rfl (by rw [hz2]; omega) (by unfold maxLen; omega) (Nat.le_refl _) ?_; intro w1 hown hg)
  have hsz : w.heap.size < w1.heap.size := by
    rcases hown.2 with ⟨h', _⟩ | ⟨g, _, _, h', _, hg, _⟩
    · simp at h'
    · simp only [Value.slice.injEq, Option.some.injEq, Addr.mk.injEq, and_true, true_and] at h'
      rw [h'.1]
      exact (Array.getElem?_eq_some_iff.1 hg).1
  clear hown
  refine wp_loop_rounds 1 ?_
  rw [rounds_succ]
  go_wp2
  go_ret
  exact ⟨rfl, hsz, (Below.refl _ _).grown hg (Nat.le_refl _) (fun k hk => by cases hk)⟩

theorem keys_some (b off n c : Nat) (ss : List ByteArray) (w : World) (hn : n ≤ 65536) (hb : b < w.heap.size)
    (hc : ∀ i, i < n → w.cell? ⟨b, off + i, none⟩ = some (.string (ss.getD i ByteArray.empty))) :
    Calls Trym.prog 25 #[.slice (some ⟨b, off, none⟩) n c] w fun e w' => e = .returned (.slice (some ⟨w.heap.size, 0, none⟩) n n) ∧
      ∃ xs, w'.ownsRow w.heap.size 45 3 (.slice (some ⟨w.heap.size, 0, none⟩) n n) n xs ∧ Laid xs ss n ∧ Below w.heap.size w w' := by
  obtain ⟨i0, hi, hz0, hz1, hz2⟩ := info_parts Trym.info45
  go_enter Trym.func25, Trym.ntmps25
  go_wp2_with (at_make; refine wpList_make_full _ rfl _ _ 40 rfl w.heap.size 45 i0 (.agg #[.string ByteArray.empty, .string ByteArray.empty, .string ByteArray.empty]) 3 Trym.underlying40 hi hz0 hz1 .i64 .i64 _ _ n rfl rfl rfl rfl (by rw [hz2]; omega) (by unfold maxLen; omega) (Nat.le_refl _) ?_; intro w1 hown hg)
  have hbw : Below w.heap.size w w1 := (Below.refl _ _).grown hg (Nat.le_refl _) (fun k hk => by cases hk)
  clear hg hi hz0 hz1 hz2
  go_loopw [4] (fun i wr => ∃ (k : Nat) (xs : List Value), k ≤ n ∧ i = .int .i64 k ∧ wr.ownsRow w.heap.size 45 3 (.slice (some ⟨w.heap.size, 0, none⟩) n n) n xs ∧ Laid xs ss k ∧ Below w.heap.size w wr) (fun i _ => n - (intOf i).toNat)
  case atStart => exact ⟨0, _, Nat.zero_le _, rfl, hown, Laid.zero _ _, hbw⟩
  case round =>
    clear hown hbw
    obtain ⟨k, xs, hk, rfl, hown, hfill, hbw⟩ := hrel
    by_cases hlt : k < n
    · obtain ⟨s, hs⟩ : ∃ s, s = ss.getD k ByteArray.empty := ⟨_, rfl⟩
      have hcx : wr.cell? ⟨b, off + k, none⟩ = some (.string s) := by rw [hs, hbw.cell (by exact hb)]; exact hc k hlt
      have hlen : xs.length = n * 3 := hown.1
      have f0 := hown.frozenAt (k * 3)
      have f1 := hown.frozenAt (k * 3 + 1)
      have f2 := hown.frozenAt (k * 3 + 2)
      have cl : ∀ j, j < n * 3 → ∃ v, wr.cell? ⟨w.heap.size, j, none⟩ = some v := fun j hj => ⟨xs[j]'(by omega), by rw [hown.cellAt j hj, List.getElem?_eq_getElem (by omega)]⟩
      obtain ⟨v0, c0⟩ := cl (k * 3) (by omega)
      obtain ⟨v1, c1⟩ := cl (k * 3 + 1) (by omega)
      obtain ⟨v2, c2⟩ := cl (k * 3 + 2) (by omega)
      have HO : Hid _ := (((hown.stored (k * 3) (.string ⟨#[107]⟩)).1.stored (k * 3 + 1) (.string s)).1.stored (k * 3 + 2) (.string ⟨#[]⟩)).1
      have HF : Hid _ := hfill.succ (by omega) hs
      have HB : Hid _ := ((hbw.setCell (p := ⟨w.heap.size, k * 3, none⟩) (Nat.le_refl _) (.string ⟨#[107]⟩)).setCell (p := ⟨w.heap.size, k * 3 + 1, none⟩) (Nat.le_refl _) (.string s)).setCell (p := ⟨w.heap.size, k * 3 + 2, none⟩) (Nat.le_refl _) (.string ⟨#[]⟩)
      clear hs hc cl hown hbw hfill
      go_wp2
      go_roundw
      case rel => exact ⟨k + 1, _, by omega, by go_num, HO.out, HF.out, HB.out⟩
      case measure => simp [intOf]; omega
    · clear hc
      have hkn : k = n := by omega
      have HN : Hid (k = n) := hkn
      clear hkn
      go_wp2
      go_ret
      exact ⟨rfl, xs, hown, HN.out ▸ hfill, hbw⟩
end Go.Proofs.Qxb6000482aMods
