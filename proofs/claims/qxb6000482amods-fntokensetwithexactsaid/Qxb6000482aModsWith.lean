/-
  tokenSet.with (27) and ZZTokenSetWith (15) by their contracts: a new set, whatever the order in which the range meets the old one's keys.
-/
import Derived.Test.Qxb6000482aModsSet
namespace Go.Proofs.Qxb6000482aMods
open Go.RowKit Go.Maps Go.WideMaps

/-- The step of a range over a set of strings: the shapes written out. -/
theorem next_su (w : World) {ops : Array Oper} {rest : List Oper} {o : Oper} {a : Act} {Q : Exit → Act → World → Prop} (hg : o.guard = none) (it : Operand) (hop : o.op = Op.next it false)
    (b r n : Nat) (D : Ghost) (left : Lit → Bool) (cnt : Nat) (hit : a.eval it = .pointer (some ⟨r, 0, none⟩)) (h : w.ranges Trym.prog 9 unitElem b r n D left cnt)
    (hDone : cnt = 0 → (∀ kl, left kl = false) → wpList Trym.prog ops Q rest (a.put o.dst (.tuple #[.bool false])) w)
    (hMore : ∀ (x : ByteArray) (w' : World) (cnt' : Nat), keyOf Trym.prog 9 (.string x) = some (keyS x) → (∀ zd, D.atKey (keyS x) zd = .agg []) → w'.ranges Trym.prog 9 unitElem b r n D (fun z => left z && !z.sameKey (keyS x)) cnt' → cnt' < cnt →
      w.grownBy w' (some r) → w'.heap.size = w.heap.size → (Instr.entry (.pointer (some ⟨r, 0, none⟩))).run Trym.prog w' = .ok (.tuple #[.string x, .agg #[]]) w' → wpList Trym.prog ops Q rest (a.put o.dst (.tuple #[.bool true, .string x, .agg #[]])) w') :
    wpList Trym.prog ops Q (o :: rest) a w :=
  wpList_next_ranges w hg it hop 9 law9 (unitElem (H := Unit)) Value.string (fun _ : Unit => Value.agg #[]) (fun _ _ h => keyOf_inv h) (fun _ _ h => unit_inv h) b r n D left cnt hit h hDone
    (fun x _ kl y w' cnt' hkey _ hv hat hrg hlt hgr hsz hen => by
      obtain rfl := keyOf_S_inv hkey
      have hy : y = (.agg [], []) := (unitElem_inv hv).2
      exact hMore x w' cnt' hkey (fun zd => by rw [hat zd, hy]) hrg hlt hgr hsz hen)

/-- What 'with' leaves. -/
def After (D : Ghost) (s : ByteArray) (x : Bool) : Ghost := if x then D.put (keyS s) (.agg []) else D.del (keyS s)

set_option maxRecDepth 100000 in
set_option maxHeartbeats 800000 in
theorem with27_in (b n : Nat) (D0 : Ghost) (s : ByteArray) (w : World) (hown : w.ownsMap Trym.prog 9 unitElem b n D0) (hmax : Maps.size D0 ≤ 65536) (hs : s.size ≤ maxLen) :
    Calls Trym.prog 27 #[.map (some b), .string s, .bool true] w fun e w' => e = .returned (.map (some w.heap.size)) ∧ w'.ownsMap Trym.prog 9 unitElem w.heap.size (Maps.size D0 + 1) (After D0 s true) ∧ Below w.heap.size w w' := by
  have hmm := mk27
  have hbl := hown.lt
  have hkey := keyOf_S hs
  have e1 : (w.alloc (.map #[] 0)).heap.size = w.heap.size + 1 := by simp
  go_enter Trym.func27, Trym.ntmps27
  go_wp2_with (first
    | (at_len; refine wpList_len_own _ rfl _ 27 rfl 9 46 Trym.underlying27 unitElem b n _ rfl hown ?_)
    | (at_range; refine wpList_range_own _ rfl _ 27 rfl 9 46 law9 Trym.underlying27 _ b n _ rfl (hown.alloc _) ?_; intro w0 hrg0 hg0 hs0))
  go_frame
  rw [e1] at hrg0 hs0 ⊢
  clear hmm e1
  go_loopw [8] (fun _ wr => ∃ (left : Lit → Bool) (cnt : Nat) (Dout : Ghost), wr.ranges Trym.prog 9 unitElem b (w.heap.size + 1) n D0 left cnt ∧ cnt ≤ Maps.size D0 ∧
      wr.ownsMap Trym.prog 9 unitElem w.heap.size (Maps.size D0 - cnt) Dout ∧ Agree Dout D0 left ∧ Below w.heap.size w wr)
    (fun _ wr => wr.rangeLeft b (w.heap.size + 1))
  case atStart =>
    exact ⟨_, _, .map [], hrg0, Nat.le_refl _, ((World.ownsMap_made _ _ _ _).kept hg0 (by simp)).mono (Nat.zero_le _), agree_start D0, ((Below.refl _ _).alloc (Nat.le_refl _) _).grown hg0 (by simp) (fun j hj => by cases hj)⟩
  case round =>
    clear hrg0 hg0 hs0
    obtain ⟨left, cnt, Dout, hrg, hcs, hout, hA, hnx⟩ := hrel
    go_wp2_with (at_next; refine next_su _ rfl _ rfl b (w.heap.size + 1) n _ _ _ rfl hrg ?_ ?_)
    · intro hc0 hl0
      subst hc0
      have e := agree_end hA hl0 (hout.canon law9) (hown.canon law9)
      subst e
      have hout' : wr.ownsMap Trym.prog 9 unitElem w.heap.size (Maps.size Dout) Dout := by simpa using hout
      clear hA hrg hl0 hout
      go_wp2_with (at_mapUpdate; refine wpList_mapUpdate_own _ rfl _ _ _ 27 rfl 9 46 law9 Trym.underlying27 (unitElem (H := Unit)) w.heap.size _ _ rfl hout' (by unfold maxLen; omega) _ _ _ rfl rfl hkey _ [] unitElem_mk ?_; intro w2 hout2 hg2)
      go_ret
      exact ⟨rfl, hout2, hnx.grown hg2 hnx.size (fun j hj => by cases hj; exact Nat.le_refl _)⟩
    · intro x w1 cnt1 hkx hat hrg1 hlt hg1 hs1 hen
      have hout1 := hout.kept hg1 (by simp)
      have HA : Hid (Agree (Dout.put (keyS x) (.agg [])) D0 (fun z => left z && !z.sameKey (keyS x))) := agree_step hA hout.isMap (keyS_is _) hat
      clear hat hA
      go_wp2_with (at_mapUpdate; refine wpList_mapUpdate_own _ rfl _ _ _ 27 rfl 9 46 law9 Trym.underlying27 (unitElem (H := Unit)) w.heap.size _ _ rfl hout1 (by unfold maxLen; omega) _ _ _ rfl rfl hkx _ [] unitElem_mk ?_; intro w2 hout2 hg2; go_frame)
      have hrg2 := hrg1.kept hg2 (fun e => by have := Option.some.inj e; omega) (fun e => by have := Option.some.inj e; omega)
      go_roundw
      case rel =>
        exact ⟨_, cnt1, _, hrg2, by omega, hout2.mono (by omega), HA.out,
          (hnx.grown hg1 hnx.size (fun j hj => by cases hj; exact Nat.le_succ _)).grown hg2 (by have := hnx.size; omega) (fun j hj => by cases hj; exact Nat.le_refl _)⟩
      case measure => rw [hrg2.left_eq, hrg.left_eq]; exact hlt

set_option maxRecDepth 100000 in
set_option maxHeartbeats 800000 in
theorem with27_out (b n : Nat) (D0 : Ghost) (s : ByteArray) (w : World) (hown : w.ownsMap Trym.prog 9 unitElem b n D0) (hmax : Maps.size D0 ≤ 65536) (hs : s.size ≤ maxLen) :
    Calls Trym.prog 27 #[.map (some b), .string s, .bool false] w fun e w' => e = .returned (.map (some w.heap.size)) ∧ w'.ownsMap Trym.prog 9 unitElem w.heap.size (Maps.size D0 + 1) (After D0 s false) ∧ Below w.heap.size w w' := by
  have hmm := mk27
  have hbl := hown.lt
  have hkey := keyOf_S hs
  have e1 : (w.alloc (.map #[] 0)).heap.size = w.heap.size + 1 := by simp
  go_enter Trym.func27, Trym.ntmps27
  go_wp2_with (first
    | (at_len; refine wpList_len_own _ rfl _ 27 rfl 9 46 Trym.underlying27 unitElem b n _ rfl hown ?_)
    | (at_range; refine wpList_range_own _ rfl _ 27 rfl 9 46 law9 Trym.underlying27 _ b n _ rfl (hown.alloc _) ?_; intro w0 hrg0 hg0 hs0))
  go_frame
  rw [e1] at hrg0 hs0 ⊢
  clear hmm e1
  go_loopw [8] (fun _ wr => ∃ (left : Lit → Bool) (cnt : Nat) (Dout : Ghost), wr.ranges Trym.prog 9 unitElem b (w.heap.size + 1) n D0 left cnt ∧ cnt ≤ Maps.size D0 ∧
      wr.ownsMap Trym.prog 9 unitElem w.heap.size (Maps.size D0 - cnt) Dout ∧ Agree Dout D0 left ∧ Below w.heap.size w wr)
    (fun _ wr => wr.rangeLeft b (w.heap.size + 1))
  case atStart =>
    exact ⟨_, _, .map [], hrg0, Nat.le_refl _, ((World.ownsMap_made _ _ _ _).kept hg0 (by simp)).mono (Nat.zero_le _), agree_start D0, ((Below.refl _ _).alloc (Nat.le_refl _) _).grown hg0 (by simp) (fun j hj => by cases hj)⟩
  case round =>
    clear hrg0 hg0 hs0
    obtain ⟨left, cnt, Dout, hrg, hcs, hout, hA, hnx⟩ := hrel
    go_wp2_with (at_next; refine next_su _ rfl _ rfl b (w.heap.size + 1) n _ _ _ rfl hrg ?_ ?_)
    · intro hc0 hl0
      subst hc0
      have e := agree_end hA hl0 (hout.canon law9) (hown.canon law9)
      subst e
      have hout' : wr.ownsMap Trym.prog 9 unitElem w.heap.size (Maps.size Dout) Dout := by simpa using hout
      clear hA hrg hl0 hout
      go_wp2_with (at_delete; refine wpList_delete_own _ rfl _ _ 27 9 rfl 46 law9 Trym.underlying27 _ w.heap.size _ _ rfl hout' _ _ rfl hkey ?_; intro w2 hout2 ht2)
      go_ret
      exact ⟨rfl, hout2.mono (Nat.le_succ _), hnx.grown ht2.grown hnx.size (fun j hj => by cases hj; exact Nat.le_refl _)⟩
    · intro x w1 cnt1 hkx hat hrg1 hlt hg1 hs1 hen
      have hout1 := hout.kept hg1 (by simp)
      have HA : Hid (Agree (Dout.put (keyS x) (.agg [])) D0 (fun z => left z && !z.sameKey (keyS x))) := agree_step hA hout.isMap (keyS_is _) hat
      clear hat hA
      go_wp2_with (at_mapUpdate; refine wpList_mapUpdate_own _ rfl _ _ _ 27 rfl 9 46 law9 Trym.underlying27 (unitElem (H := Unit)) w.heap.size _ _ rfl hout1 (by unfold maxLen; omega) _ _ _ rfl rfl hkx _ [] unitElem_mk ?_; intro w2 hout2 hg2; go_frame)
      have hrg2 := hrg1.kept hg2 (fun e => by have := Option.some.inj e; omega) (fun e => by have := Option.some.inj e; omega)
      go_roundw
      case rel =>
        exact ⟨_, cnt1, _, hrg2, by omega, hout2.mono (by omega), HA.out,
          (hnx.grown hg1 hnx.size (fun j hj => by cases hj; exact Nat.le_succ _)).grown hg2 (by have := hnx.size; omega) (fun j hj => by cases hj; exact Nat.le_refl _)⟩
      case measure => rw [hrg2.left_eq, hrg.left_eq]; exact hlt


theorem with27 (b n : Nat) (D0 : Ghost) (s : ByteArray) (x : Bool) (w : World) (hown : w.ownsMap Trym.prog 9 unitElem b n D0) (hmax : Maps.size D0 ≤ 65536) (hs : s.size ≤ maxLen) :
    Calls Trym.prog 27 #[.map (some b), .string s, .bool x] w fun e w' => e = .returned (.map (some w.heap.size)) ∧ w'.ownsMap Trym.prog 9 unitElem w.heap.size (Maps.size D0 + 1) (After D0 s x) ∧ Below w.heap.size w w' := by
  cases x with
  | true => exact with27_in b n D0 s w hown hmax hs
  | false => exact with27_out b n D0 s w hown hmax hs

theorem with15 (b n : Nat) (D0 : Ghost) (s : ByteArray) (x : Bool) (w : World) (hown : w.ownsMap Trym.prog 9 unitElem b n D0) (hmax : Maps.size D0 ≤ 65536) (hs : s.size ≤ maxLen) :
    Calls Trym.prog 15 #[.map (some b), .string s, .bool x] w fun e w' => e = .returned (.map (some w.heap.size)) ∧ w'.ownsMap Trym.prog 9 unitElem w.heap.size (Maps.size D0 + 1) (After D0 s x) ∧ Below w.heap.size w w' := by
  have H := with27 b n D0 s x w hown hmax hs
  go_enter Trym.func15, Trym.ntmps15
  go_wp2_with (go_at_call 27; refine H.mono ?_; rintro e w' ⟨rfl, h1, h2⟩)
  go_ret
  exact ⟨rfl, h1, h2⟩
end Go.Proofs.Qxb6000482aMods
