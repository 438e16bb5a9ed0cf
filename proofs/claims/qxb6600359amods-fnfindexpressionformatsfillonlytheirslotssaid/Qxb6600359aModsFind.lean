/-
  client.findExpression (21), ZZfindExpression (9) and zzBytes_FnFindExpressionFormatsFillOnlyTheirSlots (11) by their contracts; the law's walk (4).
-/
import Derived.Test.Qxb6600359aModsRows
import Derived.WalkKit
import Derived.ProofKit
import Derived.BigQuiet
namespace Go.Proofs.Qxb6600359aMods
open Go.RowKit

/-- The 18 words of the expression. -/
def words (f s : ByteArray) : List ByteArray := [⟨#[45, 105, 103, 110, 111, 114, 101, 95, 114, 101, 97, 100, 100, 105, 114, 95, 114, 97, 99, 101]⟩, ⟨#[40]⟩, ⟨#[45, 116, 121, 112, 101]⟩, ⟨#[102]⟩, ⟨#[45, 111]⟩, ⟨#[45, 116, 121, 112, 101]⟩, ⟨#[100]⟩, ⟨#[45, 111]⟩, ⟨#[45, 116, 121, 112, 101]⟩, ⟨#[112]⟩, ⟨#[41]⟩, ⟨#[45, 112, 114, 105, 110, 116, 102]⟩, f, ⟨#[45, 111]⟩, ⟨#[45, 116, 121, 112, 101]⟩, ⟨#[108]⟩, ⟨#[45, 112, 114, 105, 110, 116, 102]⟩, s]
def word (f s : ByteArray) (i : Nat) : ByteArray := (words f s).getD i ByteArray.empty

/-- The row at block g holds the words. -/
def Holds (w : World) (g : Nat) (f s : ByteArray) : Prop := g < w.heap.size ∧ ∀ i, i < 18 → w.cell? ⟨g, i, none⟩ = some (.string (word f s i))
theorem Holds.below {w w' : World} {g : Nat} {f s : ByteArray} (h : Holds w g f s) {B : Nat} (hb : Below B w w') (hg : g < B) : Holds w' g f s :=
  ⟨Nat.lt_of_lt_of_le h.1 hb.size, fun i hi => (hb.cell (p := ⟨g, i, none⟩) hg).trans (h.2 i hi)⟩

theorem find21 (f s : ByteArray) (w : World) :
    Calls Trym.prog 21 #[.string f, .string s] w fun e w' => e = .returned (.slice (some ⟨w.heap.size, 0, none⟩) 18 18) ∧ w' = w.alloc (.cells ((words f s).map Value.string).toArray 9) := by
  go_enter Trym.func21, Trym.ntmps21
  go_wp2
  go_ret
  exact ⟨rfl, rfl⟩

theorem holds_new (f s : ByteArray) (w : World) : Holds (w.alloc (.cells ((words f s).map Value.string).toArray 9)) w.heap.size f s := by
  refine ⟨by simp, fun i hi => ?_⟩
  have hl : (words f s).length = 18 := rfl
  rw [World.cell?_alloc_at _ _ _ _ rfl]
  simp [word, List.getD, List.getElem?_eq_getElem (show i < (words f s).length by omega)]

theorem find9 (f s : ByteArray) (w : World) :
    Calls Trym.prog 9 #[.string f, .string s] w fun e w' => ∃ g, e = .returned (.slice (some ⟨g, 0, none⟩) 18 18) ∧ Holds w' g f s ∧ Below w.heap.size w w' := by
  go_enter Trym.func9, Trym.ntmps9
  go_wp2_with (go_at_call 21; refine (find21 f s _).mono ?_; rintro e w' ⟨rfl, rfl⟩)
  go_ret
  exact ⟨_, rfl, holds_new f s w, (Below.refl _ _).alloc (Nat.le_refl _) _⟩

/-- It ends in a bool. -/
def IsBool (e : Ending) : Prop := e = .returned (.bool false) ∨ e = .returned (.bool true)
theorem bytes11 (a b c d : ByteArray) (w : World) (ha : a.size ≤ maxLen) (hb : b.size ≤ maxLen) (hc : c.size ≤ maxLen) (hd : d.size ≤ maxLen) :
    Calls Trym.prog 11 #[.string a, .string b, .string c, .string d] w fun e w' => IsBool e ∧ w = w' := by
  unfold maxLen at ha hb hc hd
  go_enter Trym.func11, Trym.ntmps11
  go_wp2
  all_goals go_ret
  all_goals first | exact ⟨.inl rfl, rfl⟩ | exact ⟨.inr rfl, rfl⟩

/-! ### THE PLAIN LAW -/
/-- Where the loop can stand: before the first slot, between the two, at the end; how many slots it has seen. -/
def St (k c : Nat) : Prop := (k ≤ 11 ∧ c = 0) ∨ (13 ≤ k ∧ k ≤ 16 ∧ c = 1) ∨ (k = 18 ∧ c = 2)
/-- A word that is no '-printf' and no format: the same in every expression. -/
theorem word_plain (k : Nat) (hk : k < 11 ∨ (13 ≤ k ∧ k < 16)) : ∃ t : ByteArray, (∀ f s, word f s k = t) ∧ (t.toList == [45, 112, 114, 105, 110, 116, 102]) = false := by
  match k, hk with
  | 0, _ => exact ⟨_, fun _ _ => rfl, by decide +kernel⟩
  | 1, _ => exact ⟨_, fun _ _ => rfl, by decide +kernel⟩
  | 2, _ => exact ⟨_, fun _ _ => rfl, by decide +kernel⟩
  | 3, _ => exact ⟨_, fun _ _ => rfl, by decide +kernel⟩
  | 4, _ => exact ⟨_, fun _ _ => rfl, by decide +kernel⟩
  | 5, _ => exact ⟨_, fun _ _ => rfl, by decide +kernel⟩
  | 6, _ => exact ⟨_, fun _ _ => rfl, by decide +kernel⟩
  | 7, _ => exact ⟨_, fun _ _ => rfl, by decide +kernel⟩
  | 8, _ => exact ⟨_, fun _ _ => rfl, by decide +kernel⟩
  | 9, _ => exact ⟨_, fun _ _ => rfl, by decide +kernel⟩
  | 10, _ => exact ⟨_, fun _ _ => rfl, by decide +kernel⟩
  | 13, _ => exact ⟨_, fun _ _ => rfl, by decide +kernel⟩
  | 14, _ => exact ⟨_, fun _ _ => rfl, by decide +kernel⟩
  | 15, _ => exact ⟨_, fun _ _ => rfl, by decide +kernel⟩
  | 11, h => omega
  | 12, h => omega
  | n + 16, h => omega

theorem drawn {B : Nat} {a w : World} (h : Below B a w) (q : Nat) : Below B a (w.drewN q) := ⟨h.os, h.tape, h.output, h.size, h.block⟩

set_option maxHeartbeats 2000000 in
theorem find_any (f1 s1 f2 s2 : ByteArray) (w : World) (h1 : f1.size ≤ maxLen) (h2 : s1.size ≤ maxLen) (h3 : f2.size ≤ maxLen) (h4 : s2.size ≤ maxLen) :
    Calls Trym.prog 4 #[.string f1, .string s1, .string f2, .string s2] w fun e w' => e = .returned (.bool true) ∧ Below w.heap.size w w' := by
  have H11 := bytes11 f1 s1 f2 s2 w h1 h2 h3 h4
  unfold maxLen at h1 h2 h3 h4
  go_enter Trym.func4, Trym.ntmps4
  go_wp2_with (go_at_call 11; refine H11.mono ?_; rintro e w' ⟨hib, rfl⟩; rcases hib with rfl | rfl)
  all_goals first | (go_ret; exact ⟨rfl, Below.refl _ _⟩) | skip
  refine (find9 f1 s1 w).mono ?_
  rintro e w1 ⟨g1, rfl, hold1, hb1⟩
  clear H11 h1 h2 h3 h4
  go_wp2_with (go_at_call 9; refine (find9 f2 s2 _).mono ?_; rintro e w2 ⟨g2, rfl, hold2, hb2⟩)
  have hold1' := hold1.below hb2 hold1.1
  have HB : Hid (Below w.heap.size w w2) := hb1.trans (hb2.mono hb1.size)
  clear hold1 hb1 hb2
  go_loopw [11, 12] (fun sl i wr => ∃ k c : Nat, St k c ∧ i = .int .i64 k ∧ sl = .int .i64 c ∧ Below w2.heap.size w2 wr) (fun _ i _ => 18 - (intOf i).toNat)
  case atStart => exact ⟨0, 0, .inl ⟨by omega, rfl⟩, rfl, rfl, Below.refl _ _⟩
  case round =>
    obtain ⟨k, c, hst, rfl, rfl, hbw⟩ := hrel
    have o1 := hold1'.below hbw hold1'.1
    have o2 := hold2.below hbw hold2.1
    clear hold1' hold2
    by_cases hpl : k < 11 ∨ (13 ≤ k ∧ k < 16)
    · obtain ⟨t, htw, htp⟩ := word_plain k hpl
      have hk18 : k < 18 := by omega
      have c1 : wr.cell? ⟨g1, k, none⟩ = some (.string t) := by rw [o1.2 k hk18, htw]
      have c2 : wr.cell? ⟨g2, k, none⟩ = some (.string t) := by rw [o2.2 k hk18, htw]
      have hst' : St (k + 1) c := by unfold St at *; omega
      clear hst hpl htw o1 o2
      go_wp2
      go_quiet (fail)
      go_wp2
      go_roundw
      case rel => exact ⟨k + 1, c, hst', by go_num, rfl, drawn hbw _⟩
      case measure => simp [intOf]; omega
    · have hcase : (k = 11 ∧ c = 0) ∨ (k = 16 ∧ c = 1) ∨ (k = 18 ∧ c = 2) := by unfold St at hst; omega
      clear hst
      rcases hcase with ⟨hk, hc⟩ | ⟨hk, hc⟩ | ⟨hk, hc⟩
      · subst hk
        subst hc
        have c1 : wr.cell? ⟨g1, 11, none⟩ = some (.string ⟨#[45, 112, 114, 105, 110, 116, 102]⟩) := o1.2 11 (by omega)
        have c2 : wr.cell? ⟨g2, 11, none⟩ = some (.string ⟨#[45, 112, 114, 105, 110, 116, 102]⟩) := o2.2 11 (by omega)
        have c3 : wr.cell? ⟨g1, 12, none⟩ = some (.string f1) := o1.2 12 (by omega)
        have c4 : wr.cell? ⟨g2, 12, none⟩ = some (.string f2) := o2.2 12 (by omega)
        clear o1 o2 hpl
        go_wp2
        go_quiet (fail)
        go_wp2
        go_roundw
        case rel => exact ⟨13, 1, .inr (.inl ⟨by omega, by omega, rfl⟩), rfl, rfl, drawn hbw _⟩
        case measure => simp [intOf]
      · subst hk
        subst hc
        have c1 : wr.cell? ⟨g1, 16, none⟩ = some (.string ⟨#[45, 112, 114, 105, 110, 116, 102]⟩) := o1.2 16 (by omega)
        have c2 : wr.cell? ⟨g2, 16, none⟩ = some (.string ⟨#[45, 112, 114, 105, 110, 116, 102]⟩) := o2.2 16 (by omega)
        have c3 : wr.cell? ⟨g1, 17, none⟩ = some (.string s1) := o1.2 17 (by omega)
        have c4 : wr.cell? ⟨g2, 17, none⟩ = some (.string s2) := o2.2 17 (by omega)
        clear o1 o2 hpl
        go_wp2
        go_quiet (fail)
        go_wp2
        go_roundw
        case rel => exact ⟨18, 2, .inr (.inr ⟨rfl, rfl⟩), rfl, rfl, drawn hbw _⟩
        case measure => simp [intOf]
      · subst hk
        subst hc
        clear o1 o2 hpl
        go_wp2
        go_ret
        exact ⟨rfl, HB.out.trans (hbw.mono HB.out.size)⟩
end Go.Proofs.Qxb6600359aMods
