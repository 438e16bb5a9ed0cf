/-
  store.EnabledKeys (24) by its contract.
-/
import Derived.Test.Qxb6000482aModsKeys
namespace Go.Proofs.Qxb6000482aMods
open Go.RowKit

/-- The text is 'enabled'. -/
def en (s : ByteArray) : Bool := s.toList == [101, 110, 97, 98, 108, 101, 100]
/-- Which of the first k texts are 'enabled'. -/
def places (ss : List ByteArray) (k : Nat) : List Nat := (List.range k).filter fun i => en (ss.getD i ByteArray.empty)
theorem places_zero (ss : List ByteArray) : places ss 0 = [] := rfl
theorem places_succ (ss : List ByteArray) (k : Nat) : places ss (k + 1) = if en (ss.getD k ByteArray.empty) then places ss k ++ [k] else places ss k := by
  unfold places
  rw [List.range_succ, List.filter_append]
  split <;> simp_all
theorem places_le (ss : List ByteArray) (k : Nat) : (places ss k).length ≤ k := by
  have := List.length_filter_le (fun i => en (ss.getD i ByteArray.empty)) (List.range k)
  rw [List.length_range] at this
  exact this
/-- As cells. -/
def ints (l : List Nat) : List Value := l.map fun i : Nat => Value.int .i64 (i : Int)

theorem own_from {w : World} {base : Nat} {e : TypeId} {size : Nat} {v : Value} {n : Nat} {xs : List Value} (h : w.ownsRow base e size v n xs) (k : Nat) (hk : v.ownBlock = some k) : base ≤ k := by
  rcases h.2 with ⟨rfl, _⟩ | ⟨g, cap, cur, rfl, hg, _⟩
  · simp [Value.ownBlock] at hk
  · simp [Value.ownBlock] at hk
    omega

/-- What an append of k does to the relation. -/
theorem rel_add {w wr w1 : World} {ss : List ByteArray} {k : Nat} {v v' : Value} {o o' : Obj} {s : ByteArray} (hs : s = ss.getD k ByteArray.empty) (he : (s.toList == [101, 110, 97, 98, 108, 101, 100]) = true)
    (hown : wr.ownsRow w.heap.size 3 1 v (places ss k).length (ints (places ss k))) (hbw : Below w.heap.size w wr)
    (hown' : w1.ownsRow w.heap.size 3 1 v' ((places ss k).length + 1) (ints (places ss k) ++ [.int .i64 (k : Int)])) (hg : ((wr.alloc o).alloc o').grownBy w1 v.ownBlock) :
    w1.ownsRow w.heap.size 3 1 v' (places ss (k + 1)).length (ints (places ss (k + 1))) ∧ Below w.heap.size w w1 := by
  have e1 : places ss (k + 1) = places ss k ++ [k] := by rw [places_succ, if_pos (by rw [← hs]; exact he)]
  have hsz := hbw.size
  refine ⟨?_, ((hbw.alloc hsz o).alloc (by simp; omega) o').grown hg (by simp; omega) (own_from hown)⟩
  rw [e1, List.length_append]
  simpa [ints] using hown'
theorem rel_skip {w wr : World} {ss : List ByteArray} {k : Nat} {v : Value} {o : Obj} {s : ByteArray} (hs : s = ss.getD k ByteArray.empty) (he : (s.toList == [101, 110, 97, 98, 108, 101, 100]) = false)
    (hown : wr.ownsRow w.heap.size 3 1 v (places ss k).length (ints (places ss k))) (hbw : Below w.heap.size w wr) :
    (wr.alloc o).ownsRow w.heap.size 3 1 v (places ss (k + 1)).length (ints (places ss (k + 1))) ∧ Below w.heap.size w (wr.alloc o) := by
  have e1 : places ss (k + 1) = places ss k := by rw [places_succ, if_neg (by rw [← hs]; simp [en, he])]
  rw [e1]
  exact ⟨hown.alloc _, hbw.alloc hbw.size o⟩

theorem Trym.info3 : (Trym.prog.info? 3).map (fun i => (i.zero, i.size, i.bytes)) = some (some (.int .i64 0), 1, 8) := by kernel_rfl

set_option maxHeartbeats 400000 in
theorem enabled_some (g n : Nat) (ss : List ByteArray) (w : World) (hn : n ≤ 65536) (hb : g < w.heap.size)
    (hc : ∀ j, j < n → w.cell? ⟨g, j * 3, none⟩ = some (.string ⟨#[107]⟩) ∧ w.cell? ⟨g, j * 3 + 1, none⟩ = some (.string (ss.getD j ByteArray.empty)) ∧ w.cell? ⟨g, j * 3 + 2, none⟩ = some (.string ⟨#[]⟩)) :
    Calls Trym.prog 24 #[.slice (some ⟨g, 0, none⟩) n n] w fun e w' => ∃ v, e = .returned v ∧ w'.ownsRow w.heap.size 3 1 v (places ss n).length (ints (places ss n)) ∧ Below w.heap.size w w' := by
  obtain ⟨i0, hi, hz0, hz1, hz2⟩ := info_parts Trym.info3
  go_enter Trym.func24, Trym.ntmps24
  go_wp2
  go_loopw [3, 8] (fun v i wr => ∃ k : Nat, k ≤ n ∧ i = .int .i64 k ∧ wr.ownsRow w.heap.size 3 1 v (places ss k).length (ints (places ss k)) ∧ Below w.heap.size w wr) (fun _ i _ => n - (intOf i).toNat)
  case atStart => exact ⟨0, Nat.zero_le _, rfl, World.ownsRow_nil _ _ _ _, Below.refl _ _⟩
  case round =>
    obtain ⟨k, hk, rfl, hown, hbw⟩ := hrel
    by_cases hlt : k < n
    · obtain ⟨s, hs⟩ : ∃ s, s = ss.getD k ByteArray.empty := ⟨_, rfl⟩
      have hck := hc k hlt
      have c0 : wr.cell? ⟨g, k * 3, none⟩ = some (.string ⟨#[107]⟩) := (hbw.cell (by exact hb)).trans hck.1
      have c1 : wr.cell? ⟨g, k * 3 + 1, none⟩ = some (.string s) := by rw [hs]; exact (hbw.cell (by exact hb)).trans hck.2.1
      have c2 : wr.cell? ⟨g, k * 3 + 2, none⟩ = some (.string ⟨#[]⟩) := (hbw.cell (by exact hb)).trans hck.2.2
      have HS : Hid (s = ss.getD k ByteArray.empty) := hs
      clear hs hck hc
      have hpl := places_le ss k
      have hsz := hbw.size
      by_cases he : (s.toList == [101, 110, 97, 98, 108, 101, 100]) = true
      · go_wp2_with (at_builtin; refine wpList_append_own _ rfl _ _ 38 rfl w.heap.size 3 i0 (.int .i64 0) 1 8 Trym.underlying38 hi hz0 hz1 hz2 rfl (by decide) _ _ _ rfl ((hown.alloc _).alloc _) ⟨wr.heap.size + 1, 0, none⟩ 1 1 [.int .i64 (k : Int)] rfl rfl ?c1 ?c2 ?c3 ?c4 ?c5 ?_)
        case c1 =>
          intro j u hj
          match j, hj with
          | 0, hj => simp at hj; subst hj; simp [Addr.add]
        case c2 => intro u hu; simp at hu; subst hu; rfl
        case c3 => unfold maxLen; omega
        case c4 => omega
        case c5 => simp; omega
        · intro v' w1 hown' hgrow _
          have R := rel_add HS.out he hown hbw hown' hgrow
          clear hown' hgrow hown hbw c0 c1 c2 hi hz0 hz1 hz2
          go_wp2
          go_roundw
          case rel => exact ⟨k + 1, by omega, by go_num, R.1, R.2⟩
          case measure => simp [intOf]; omega
      · have he' : (s.toList == [101, 110, 97, 98, 108, 101, 100]) = false := by simpa using he
        have R := fun o => rel_skip (o := o) HS.out he' hown hbw
        have HR : Hid _ := R
        clear he R hown hbw hi hz0 hz1 hz2
        go_wp2
        go_roundw
        case rel => exact ⟨k + 1, by omega, by go_num, (HR.out _).1, (HR.out _).2⟩
        case measure => simp [intOf]; omega
    · go_wp2
      go_ret
      have hkn : k = n := by omega
      subst hkn
      exact ⟨_, rfl, hown, hbw⟩

/-- What EnabledKeys hands back, by what it is good for. -/
def Got (w : World) (l : List Nat) (e : Ending) (w' : World) : Prop :=
  ∃ ao cap, e = .returned (.slice ao l.length cap) ∧ (0 < l.length → ∃ g, ao = some ⟨g, 0, none⟩ ∧ g < w'.heap.size ∧ ∀ j, j < l.length → w'.cell? ⟨g, j, none⟩ = some (.int .i64 ((l.getD j 0 : Nat) : Int))) ∧ Below w.heap.size w w'

theorem own_block_lt {w : World} {base : Nat} {e : TypeId} {size : Nat} {g n m cap : Nat} {xs : List Value} (h : w.ownsRow base e size (.slice (some ⟨g, 0, none⟩) m cap) n xs) : g < w.heap.size := by
  rcases h.2 with ⟨h', _⟩ | ⟨g', _, _, h', _, hg, _⟩
  · simp at h'
  · simp only [Value.slice.injEq, Option.some.injEq, Addr.mk.injEq, and_true] at h'
    rw [h'.1]
    exact (Array.getElem?_eq_some_iff.1 hg).1

theorem got_of {w w' : World} {l : List Nat} {v : Value} (hown : w'.ownsRow w.heap.size 3 1 v l.length (ints l)) (hb : Below w.heap.size w w') : Got w l (.returned v) w' := by
  have h0 := hown
  rcases hown.2 with ⟨rfl, hn⟩ | ⟨g, cap, cur, rfl, _⟩
  · exact ⟨none, 0, by rw [hn], fun hp => by omega, hb⟩
  · refine ⟨some ⟨g, 0, none⟩, cap, rfl, fun _ => ⟨g, rfl, own_block_lt h0, fun j hj => ?_⟩, hb⟩
    rw [h0.cellAt j (by omega)]
    simp [ints, List.getD, List.getElem?_eq_getElem hj]

/-- The keys' memory, as zzKeys leaves it. -/
def Keyed (w : World) (ss : List ByteArray) (g : Nat) : Prop :=
  g < w.heap.size ∧ ∀ j, j < ss.length → w.cell? ⟨g, j * 3, none⟩ = some (.string ⟨#[107]⟩) ∧ w.cell? ⟨g, j * 3 + 1, none⟩ = some (.string (ss.getD j ByteArray.empty)) ∧ w.cell? ⟨g, j * 3 + 2, none⟩ = some (.string ⟨#[]⟩)

theorem keyed_of {w w' : World} {ss : List ByteArray} {g : Nat} {xs : List Value} (hown : w'.ownsRow w.heap.size 45 3 (.slice (some ⟨g, 0, none⟩) ss.length ss.length) ss.length xs) (hl : Laid xs ss ss.length) : Keyed w' ss g := by
  refine ⟨own_block_lt hown, fun j hj => ?_⟩
  rw [hown.cellAt _ (by omega), hown.cellAt _ (by omega), hown.cellAt _ (by omega)]
  exact hl j hj

theorem keys25 {w : World} {a : Option Addr} {ss : List ByteArray} (h : Reads w w.heap.size a ss) (hn : ss.length ≤ 65536) (c : Nat) :
    Calls Trym.prog 25 #[.slice a ss.length c] w fun e w' => e = .returned (.slice (some ⟨w.heap.size, 0, none⟩) ss.length ss.length) ∧ Keyed w' ss w.heap.size ∧ Below w.heap.size w w' := by
  by_cases h0 : 0 < ss.length
  · obtain ⟨b, off, rfl, hlt, hc⟩ := h.1 h0
    exact (keys_some b off _ c ss w hn hlt hc).mono fun e w' ⟨he, xs, hown, hl, hb⟩ => ⟨he, keyed_of hown hl, hb⟩
  · have hnil : ss = [] := List.length_eq_zero_iff.1 (by omega)
    subst hnil
    exact (keys_nil a c w).mono fun e w' ⟨he, hlt, hb⟩ => ⟨he, ⟨hlt, fun j hj => absurd hj (by simp)⟩, hb⟩

theorem enabled24 {w : World} {ss : List ByteArray} {g : Nat} (h : Keyed w ss g) (hn : ss.length ≤ 65536) :
    Calls Trym.prog 24 #[.slice (some ⟨g, 0, none⟩) ss.length ss.length] w fun e w' => Got w (places ss ss.length) e w' :=
  (enabled_some g _ ss w hn h.1 h.2).mono fun e w' ⟨v, he, hown, hb⟩ => by rw [he]; exact got_of hown hb
end Go.Proofs.Qxb6000482aMods
