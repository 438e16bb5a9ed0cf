/-
  FnEnabledKeysExact: the row. The argument is a slice of strings: it is opened once ('Reads'), the walk writes nothing that was there ('Below'), so it reads behind the call as before it.
-/
import Derived.Test.Qxb6000482aModsExact
import Derived.SizedLaws
import Derived.OpenShut
import Derived.SliceStrings
namespace Go.Proofs.Qxb6000482aMods.fnEnabledKeysExact
open Go.ChangeShapes Go.WideShapes Go.ChangeAt Go.RowKit

theorem own : ownKnob Trym.prog.godebug = none := by kernel_rfl
theorem cells9 : Trym.prog.cellsOf 9 = 1 := by kernel_rfl
theorem bytes9 : Trym.prog.bytesOf 9 = 16 := by kernel_rfl
theorem laidOut : laidOutB Trym.prog = true := by kernel_rfl

set_option maxRecDepth 100000 in
theorem lifted (os : Os) (started : os.Started) (H : Type) (enc : TypeId × Value → H) :
    ReturnsInHanded {} Trym.checked os 8 .any (Rows.fnEnabledKeysExactSpec.pre6 enc Trym.prog Trym.f8 Rows.fnEnabledKeysExactRow.domain false) (Rows.fnEnabledKeysExactSpec.post enc Trym.prog Trym.f8 false true false false) := by
  refine returnsInHanded_of_change_sized (C := Trym.checked) own started (by kernel_rfl) Trym.func8
    (ChangeSpec.witness6 (enc := enc) (C := Trym.checked) false ⟨#[], #[.slice none 0 0], []⟩ 8 (by kernel_rfl) (by kernel_rfl) (by kernel_rfl) (by kernel_rfl)) ?_
  intro W base args ds gs before hval0 hW _ hsz0 _
  have hsz : (DataW.weightsEach Trym.prog (Trym.f8.params.toList ++ Rows.fnEnabledKeysExactSpec.plain.varTypes Trym.prog) (ds ++ gs)).all (· ≤ reachBytes) = true := hsz0
  clear hsz0
  have hval : ∀ (j : Nat) t v, Trym.f8.params[j]? = some t → args[j]? = some v → Value.okWide Trym.prog W .any base t v := hval0
  have hW' := hW
  obtain ⟨p, q, hA0, hV, rfl, _, _⟩ := hW
  have hA : DataW.TrodAll enc Trym.prog W 0 (fun _ => true) true Trym.f8.params.toList args.toList ds p := hA0
  rw [Trym.params8] at hA hval hsz
  obtain ⟨v0, d0, rfl, rfl, h0⟩ := trodAll_one hA
  obtain ⟨rfl, rfl⟩ := trodVars_none hV
  obtain ⟨a0, len, cap, rfl⟩ := okWide_slice Trym.underlying22 (hval 0 22 v0 rfl rfl)
  have h0k := h0
  obtain ⟨fuel, hf⟩ := h0
  clear hA0 hval0
  simp only [List.append_nil] at hW'
  have hlt : ∀ x ∈ p, x.block < W.heap.size := fun x hx => by simpa using hW'.lt x hx
  have hargs : ∀ (W' : World), Below W.heap.size W W' → DataW.Trod enc Trym.prog W' 0 (fun b => decide (b < W.heap.size)) true 22 (.slice a0 len cap) d0 p :=
    fun W' hn => Below.trod laidOut (by kernel_rfl) (of_decide_eq_true (by kernel_rfl)) h0k hn hlt
  have fin : ∀ (e : Ending) W', (e = Ending.returned (.bool true) ∧ Below W.heap.size W W') →
      ∃ v, e = Ending.returned v ∧ Rows.fnEnabledKeysExactSpec.post enc Trym.checked.prog Trym.f8 false true false false W #[.slice a0 len cap] v W' := by
    intro e W' ⟨he, hnx⟩
    subst he
    exact ⟨_, rfl, _, _, _, [], p, [], hW', trodAll_mk1 (shut_bool Trym.underlying4 _), trodAll_mk1 (hargs _ hnx), rfl, hnx.frame _, fun h => by cases h⟩
  rcases open_strings Trym.underlying22 Trym.underlying9 cells9 hf with ⟨hcs, hx⟩ | ⟨a, len', cap', ss, hcs, _, hl, hm, hz, hx, hcell, hws⟩
  · simp [Value.cells] at hcs
    obtain ⟨rfl, rfl, rfl⟩ := hcs
    exact (exact_any none 0 [] W ⟨fun hp => absurd hp (by simp), fun s hs => by cases hs⟩ (by simp)).mono fin
  · simp [Value.cells] at hcs
    obtain ⟨rfl, rfl, rfl⟩ := hcs
    simp only [Prod.mk.injEq] at hx
    obtain ⟨rfl, rfl⟩ := hx
    simp only [if_true] at hz
    have hreach : len * 16 ≤ 140737488351232 := by
      have := sized_slice hsz (j := 0) (t := 22) (e := 9) rfl rfl Trym.underlying22
      rw [bytes9] at this
      simp only [strs, List.length_map, List.length_take, List.length_drop, reachBytes] at this
      omega
    have hlen : (ss.take len).length = len := by rw [List.length_take]; omega
    have hrd : Reads W W.heap.size (some a) (ss.take len) := by
      refine ⟨fun hp => ?_, fun s hs => hws s (List.mem_of_mem_take hs)⟩
      rw [hlen] at hp
      obtain ⟨b, off, spot⟩ := a
      have hspot : spot = none := by simpa [Addr.add] using World.cell?_spot (hcell 0 (by omega))
      subst hspot
      refine ⟨b, off, rfl, hlt (.cell b off) (MemPlace.mem_row.2 ⟨0, by omega, by simp⟩), fun i hi => ?_⟩
      rw [hlen] at hi
      have hci := hcell i (by omega)
      rw [add_plain] at hci
      rw [hci, List.getD, List.getD, List.getElem?_take, if_pos hi]
    have hw := exact_any (some a) cap (ss.take len) W hrd (by rw [hlen]; exact hreach)
    rw [hlen] at hw
    exact hw.mono fin

theorem over : Rows.fnEnabledKeysExactRow.holds Trym.pinned (OpenSpec.ofChange Rows.fnEnabledKeysExactSpec) :=
  OpenClaim.holds_of_wide 8 Trym.f8 rfl rfl rfl rfl rfl rfl rfl ⟨rfl, rfl, rfl, rfl, rfl⟩ rfl rfl rfl rfl rfl (by kernel_rfl) Trym.func8 (by kernel_rfl)
    (of_decide_eq_true (by kernel_rfl)) (by unfold Func.isWrapper; first | (rw [if_pos (by decide +kernel)]; kernel_rfl) | (rw [if_neg (by decide +kernel)]; exact ⟨rfl, rfl⟩))
    (fun os started H enc _ => lifted os started H enc)

theorem proved : Rows.FnEnabledKeysExactSaid :=
  over
end Go.Proofs.Qxb6000482aMods.fnEnabledKeysExact
namespace Go.Proofs.Qxb6000482aMods
theorem fnEnabledKeysExact_proved : Rows.FnEnabledKeysExactSaid := fnEnabledKeysExact.proved
end Go.Proofs.Qxb6000482aMods
