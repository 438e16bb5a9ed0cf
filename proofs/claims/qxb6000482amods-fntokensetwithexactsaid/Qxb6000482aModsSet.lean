/-
  Sets of strings (map[string]struct{}): zzSet (13), zzHas (14), tokenSet.with (27), ZZTokenSetWith (15) by their contracts. The datum of a set is a ghost of the proof: it lives over Unit.
-/
import Derived.Test.Qxb6000482aModsClone
import Derived.Maps.OwnSet
import Derived.Maps.RangeWalk
import Derived.Maps.Ext
namespace Go.Proofs.Qxb6000482aMods
open Go.RowKit Go.Maps Go.WideMaps

abbrev Ghost := DataW Unit
/-- The key that a string reads as. -/
def keyS (s : ByteArray) : Lit := .string s.data.toList
theorem law9 : Keyed Trym.prog 9 := string_keyed Trym.underlying9
theorem keyOf_S {s : ByteArray} (h : s.size ≤ maxLen) : keyOf Trym.prog 9 (.string s) = some (keyS s) := keyOf_string_mk Trym.underlying9 h
theorem keyS_is (s : ByteArray) : WideAt.IsKeyLit (keyS s) := trivial
theorem zero46 (w : World) : (zeroValue 46).run Trym.prog w = .ok (.agg #[]) w := by kernel_rfl

theorem mk27 (k : IntKind) (n : Int) (w : World) : (Instr.makeMap 27 (some (.int k n))).run Trym.prog w = .ok (.map (some w.heap.size)) (w.alloc (.map #[] 0)) := by
  simp [Instr.makeMap, run_underlying Trym.underlying27, asInt, asIntOf, Result.andThen]

theorem own_below {w w' : World} {b n B : Nat} {D : Ghost} (h : w.ownsMap Trym.prog 9 unitElem b n D) (hb : Below B w w') (hlt : b < B) : w'.ownsMap Trym.prog 9 unitElem b n D := by
  obtain ⟨es, clock, h1, h2⟩ := h
  exact ⟨es, clock, (hb.block b hlt).trans h1, h2⟩

/-- zzHas. -/
theorem has14 (b n : Nat) (D : Ghost) (s : ByteArray) (w : World) (hown : w.ownsMap Trym.prog 9 unitElem b n D) (hs : s.size ≤ maxLen) (x : Bool) (hx : Maps.has D (keyS s) = x) :
    Calls Trym.prog 14 #[.map (some b), .string s] w fun e w' => e = .returned (.bool x) ∧ w' = w.alloc (.cells #[] 46) := by
  have hkey := keyOf_S hs
  go_enter Trym.func14, Trym.ntmps14
  go_wp2_with (at_lookup; refine wpList_lookup_own_unit _ rfl _ _ 27 rfl 9 46 law9 Trym.underlying27 (zero46 _) b n D rfl hown _ _ rfl hkey ?_)
  go_ret
  exact ⟨rfl, rfl⟩

/-- The keys of the first k strings; the set of them. -/
def keys (ss : List ByteArray) (k : Nat) : List Lit := (ss.take k).map keyS
def Sn (ss : List ByteArray) (k : Nat) : Ghost := setOf (.agg []) (keys ss k)
theorem Sn_zero (ss : List ByteArray) : Sn ss 0 = .map [] := by simp [Sn, keys, setOf]
theorem Sn_succ (ss : List ByteArray) (k : Nat) (hk : k < ss.length) : Sn ss (k + 1) = (Sn ss k).put (keyS (ss.getD k ByteArray.empty)) (.agg []) := by
  unfold Sn keys
  rw [List.take_add_one, List.map_append, ← setOf_snoc]
  simp [List.getD, List.getElem?_eq_getElem hk]
theorem keys_are (ss : List ByteArray) (k : Nat) : ∀ x ∈ keys ss k, WideAt.IsKeyLit x := fun x hx => by
  obtain ⟨s, _, rfl⟩ := List.mem_map.1 hx
  exact keyS_is s
theorem has_Sn (ss : List ByteArray) (j : Nat) (hj : j < ss.length) : Maps.has (Sn ss ss.length) (keyS (ss.getD j ByteArray.empty)) = true := by
  rw [Sn, has_setOf _ _ _ (keys_are ss ss.length), List.any_eq_true]
  refine ⟨keyS (ss.getD j ByteArray.empty), List.mem_map.2 ⟨_, ?_, rfl⟩, WideAt.sameKey_self (keyS_is _)⟩
  rw [List.take_length, List.getD, List.getElem?_eq_getElem hj]
  exact List.getElem_mem hj

theorem set13_nil (a : Option Addr) (c : Nat) (w : World) :
    Calls Trym.prog 13 #[.slice a 0 c] w fun e w' => e = .returned (.map (some w.heap.size)) ∧ w'.ownsMap Trym.prog 9 unitElem w.heap.size 0 (Sn [] 0) ∧ Below w.heap.size w w' := by
  have hmm := mk27
  go_enter Trym.func13, Trym.ntmps13
  go_wp2
  refine wp_loop_rounds 1 ?_
  rw [rounds_succ]
  go_wp2
  go_ret
  exact ⟨rfl, by rw [Sn_zero]; exact World.ownsMap_made _ _ _ _, (Below.refl _ _).alloc (Nat.le_refl _) _⟩

theorem set13_some (b off c : Nat) (ss : List ByteArray) (w : World) (hn : ss.length ≤ 65536) (hb : b < w.heap.size) (hz : ∀ i, (ss.getD i ByteArray.empty).size ≤ maxLen)
    (hc : ∀ i, i < ss.length → w.cell? ⟨b, off + i, none⟩ = some (.string (ss.getD i ByteArray.empty))) :
    Calls Trym.prog 13 #[.slice (some ⟨b, off, none⟩) ss.length c] w fun e w' => e = .returned (.map (some w.heap.size)) ∧ w'.ownsMap Trym.prog 9 unitElem w.heap.size ss.length (Sn ss ss.length) ∧ Below w.heap.size w w' := by
  have hmm := mk27
  go_enter Trym.func13, Trym.ntmps13
  go_wp2
  clear hmm
  go_loopw [4] (fun i wr => ∃ k : Nat, k ≤ ss.length ∧ i = .int .i64 k ∧ wr.ownsMap Trym.prog 9 unitElem w.heap.size k (Sn ss k) ∧ Below w.heap.size w wr) (fun i _ => ss.length - (intOf i).toNat)
  case atStart => exact ⟨0, Nat.zero_le _, rfl, by rw [Sn_zero]; exact World.ownsMap_made _ _ _ _, (Below.refl _ _).alloc (Nat.le_refl _) _⟩
  case round =>
    obtain ⟨k, hk, rfl, hown, hbw⟩ := hrel
    by_cases hlt : k < ss.length
    · obtain ⟨s, hs⟩ : ∃ s, s = ss.getD k ByteArray.empty := ⟨_, rfl⟩
      have hcx : wr.cell? ⟨b, off + k, none⟩ = some (.string s) := by rw [hs, hbw.cell (by exact hb)]; exact hc k hlt
      have hkey : keyOf Trym.prog 9 (.string s) = some (keyS s) := keyOf_S (by rw [hs]; exact hz k)
      have HP : Hid (Sn ss (k + 1) = (Sn ss k).put (keyS s) (.agg [])) := by rw [hs]; exact Sn_succ ss k hlt
      clear hs hc hz
      go_wp2_with (at_mapUpdate; refine wpList_mapUpdate_own _ rfl _ _ _ 27 rfl 9 46 law9 Trym.underlying27 (unitElem (H := Unit)) w.heap.size k _ rfl hown (by unfold maxLen; omega) _ _ _ rfl rfl hkey _ [] unitElem_mk ?_; intro w1 hown1 hgrow1)
      go_roundw
      case rel => exact ⟨k + 1, by omega, by go_num, HP.out.symm ▸ hown1, hbw.grown hgrow1 hbw.size (fun j hj => by cases hj; exact Nat.le_refl _)⟩
      case measure => simp [intOf]; omega
    · have hkn : k = ss.length := by omega
      subst hkn
      clear hc hz
      go_wp2
      go_ret
      exact ⟨rfl, hown, hbw⟩

theorem set13 {w : World} {a : Option Addr} {ss : List ByteArray} (h : Reads w w.heap.size a ss) (hn : ss.length ≤ 65536) (c : Nat) :
    Calls Trym.prog 13 #[.slice a ss.length c] w fun e w' => e = .returned (.map (some w.heap.size)) ∧ w'.ownsMap Trym.prog 9 unitElem w.heap.size ss.length (Sn ss ss.length) ∧ Below w.heap.size w w' := by
  by_cases h0 : 0 < ss.length
  · obtain ⟨b, off, rfl, hlt, hc⟩ := h.1 h0
    exact set13_some b off c ss w hn hlt (size_getD h.2) hc
  · have hnil : ss = [] := List.length_eq_zero_iff.1 (by omega)
    subst hnil
    exact set13_nil a c w

/-! ### tokenSet.with -/
theorem keyOf_inv {key : Value} {kl : Lit} (h : keyOf Trym.prog 9 key = some kl) : ∃ s : ByteArray, key = .string s := by
  cases key <;> simp [keyOf, Trym.underlying9, mapKey] at h
  exact ⟨_, rfl⟩

theorem unit_inv {v : Value} {y : DataW Unit × List MemPlace} (h : unitElem v = some y) : ∃ _c : Unit, v = .agg #[] := ⟨(), (unitElem_inv h).1⟩

theorem keyOf_S_inv {s : ByteArray} {kl : Lit} (h : keyOf Trym.prog 9 (.string s) = some kl) : kl = keyS s := by
  simp [keyOf, Trym.underlying9, mapKey] at h
  exact h.2.symm
end Go.Proofs.Qxb6000482aMods
