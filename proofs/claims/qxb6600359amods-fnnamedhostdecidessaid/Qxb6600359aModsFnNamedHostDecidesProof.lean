/-
  FnNamedHostDecides: the row. The walk writes nothing that was there ('Below'), so the arguments read behind the call as before it.
-/
import Derived.Test.Qxb6600359aModsNamed
import Derived.SizedLaws
import Derived.OpenShut
import Derived.ShutString
import Derived.SliceStrings
namespace Go.Proofs.Qxb6600359aMods.fnNamedHostDecides
open Go.ChangeShapes Go.WideShapes Go.ChangeAt Go.RowKit
open Go.ChangeMaps (open_string shut_string)

theorem own : ownKnob Trym.prog.godebug = none := by kernel_rfl
theorem cells9 : Trym.prog.cellsOf 9 = 1 := by kernel_rfl
theorem bytes9 : Trym.prog.bytesOf 9 = 16 := by kernel_rfl
theorem laidOut : laidOutB Trym.prog = true := by kernel_rfl

set_option maxRecDepth 100000 in
theorem lifted (os : Os) (started : os.Started) (H : Type) (enc : TypeId × Value → H) :
    ReturnsInHanded {} Trym.checked os 7 .any (Rows.fnNamedHostDecidesSpec.pre6 enc Trym.prog Trym.f7 Rows.fnNamedHostDecidesRow.domain false) (Rows.fnNamedHostDecidesSpec.post enc Trym.prog Trym.f7 false true false false) := by
  refine returnsInHanded_of_change_sized (C := Trym.checked) own started (by kernel_rfl) Trym.func7
    (ChangeSpec.witness6 (enc := enc) (C := Trym.checked) false ⟨#[], #[.string ByteArray.empty, .string ByteArray.empty, .string ByteArray.empty, .slice none 0 0, .string ByteArray.empty, .string ByteArray.empty, .slice none 0 0], []⟩ 8 (by kernel_rfl) (by kernel_rfl) (by kernel_rfl) (by kernel_rfl)) ?_
  intro W base args ds gs before hval0 hW _ hsz0 _
  have hsz : (DataW.weightsEach Trym.prog (Trym.f7.params.toList ++ Rows.fnNamedHostDecidesSpec.plain.varTypes Trym.prog) (ds ++ gs)).all (· ≤ reachBytes) = true := hsz0
  clear hsz0
  have hval : ∀ (j : Nat) t v, Trym.f7.params[j]? = some t → args[j]? = some v → Value.okWide Trym.prog W .any base t v := hval0
  have hW' := hW
  obtain ⟨p, q, hA0, hV, rfl, _, _⟩ := hW
  have hA : DataW.TrodAll enc Trym.prog W 0 (fun _ => true) true Trym.f7.params.toList args.toList ds p := hA0
  rw [Trym.params7] at hA hval hsz
  obtain ⟨v0, vs0, d0, ds0, p0, q0, hargs, rfl, rfl, h0, r0⟩ := trodAll_cons hA
  obtain ⟨v1, vs1, d1, ds1, p1, q1, rfl, rfl, rfl, h1, r1⟩ := trodAll_cons r0
  obtain ⟨v2, vs2, d2, ds2, p2, q2, rfl, rfl, rfl, h2, r2⟩ := trodAll_cons r1
  obtain ⟨v3, vs3, d3, ds3, p3, q3, rfl, rfl, rfl, h3, r3⟩ := trodAll_cons r2
  obtain ⟨v4, vs4, d4, ds4, p4, q4, rfl, rfl, rfl, h4, r4⟩ := trodAll_cons r3
  obtain ⟨v5, vs5, d5, ds5, p5, q5, rfl, rfl, rfl, h5, r5⟩ := trodAll_cons r4
  obtain ⟨v6, vs6, d6, ds6, p6, q6, rfl, rfl, rfl, h6, r6⟩ := trodAll_cons r5
  obtain ⟨rfl, rfl, rfl⟩ := trodAll_nil r6
  obtain rfl : args = #[v0, v1, v2, v3, v4, v5, v6] := by cases args; simp_all
  obtain ⟨rfl, rfl⟩ := trodVars_none hV
  obtain ⟨a0, rfl, rfl, rfl, w0⟩ := open_string Trym.underlying9 (hval 0 9 v0 rfl rfl) h0
  obtain ⟨a1, rfl, rfl, rfl, w1⟩ := open_string Trym.underlying9 (hval 1 9 v1 rfl rfl) h1
  obtain ⟨a2, rfl, rfl, rfl, w2⟩ := open_string Trym.underlying9 (hval 2 9 v2 rfl rfl) h2
  obtain ⟨a3, len3, cap3, rfl⟩ := okWide_slice Trym.underlying23 (hval 3 23 v3 rfl rfl)
  obtain ⟨a4, rfl, rfl, rfl, w4⟩ := open_string Trym.underlying9 (hval 4 9 v4 rfl rfl) h4
  obtain ⟨a5, rfl, rfl, rfl, w5⟩ := open_string Trym.underlying9 (hval 5 9 v5 rfl rfl) h5
  obtain ⟨a6, len6, cap6, rfl⟩ := okWide_slice Trym.underlying23 (hval 6 23 v6 rfl rfl)
  have k3 := h3
  have lt3 : ∀ x ∈ p3, x.block < W.heap.size := by obtain ⟨m, hm⟩ := k3; exact DataW.trod_lt m _ _ _ hm
  obtain ⟨ss3, hlen3, hr3, hn3⟩ : ∃ ss : List ByteArray, ss.length = len3 ∧ Reads W W.heap.size a3 ss ∧ ss.length * 16 ≤ 140737488351232 := by
    obtain ⟨fuel, hf⟩ := h3
    rcases open_strings Trym.underlying23 Trym.underlying9 cells9 hf with ⟨hcs, hx⟩ | ⟨a, len', cap', ss, hcs, _, hl, hm, hz, hx, hcell, hws⟩
    · simp [Value.cells] at hcs
      obtain ⟨rfl, rfl, rfl⟩ := hcs
      exact ⟨[], rfl, ⟨fun hp => absurd hp (by simp), fun s hs => by cases hs⟩, by simp⟩
    · simp [Value.cells] at hcs
      obtain ⟨rfl, rfl, rfl⟩ := hcs
      simp only [Prod.mk.injEq] at hx
      obtain ⟨rfl, rfl⟩ := hx
      simp only [if_true] at hz
      have hreach : len3 * 16 ≤ 140737488351232 := by
        have := sized_slice hsz (j := 3) (t := 23) (e := 9) rfl rfl Trym.underlying23
        rw [bytes9] at this
        simp only [strs, List.length_map, List.length_take, List.length_drop, reachBytes] at this
        omega
      have hlen : (ss.take len3).length = len3 := by rw [List.length_take]; omega
      refine ⟨ss.take len3, hlen, ⟨fun hp => ?_, fun s hs => hws s (List.mem_of_mem_take hs)⟩, by rw [hlen]; exact hreach⟩
      rw [hlen] at hp
      obtain ⟨b, off, spot⟩ := a
      have hspot : spot = none := by simpa [Addr.add] using World.cell?_spot (hcell 0 (by omega))
      subst hspot
      refine ⟨b, off, rfl, lt3 (.cell b off) (MemPlace.mem_row.2 ⟨0, by omega, by simp⟩), fun i hi => ?_⟩
      rw [hlen] at hi
      have hci := hcell i (by omega)
      rw [add_plain] at hci
      rw [hci, List.getD, List.getD, List.getElem?_take, if_pos hi]
  have k6 := h6
  have lt6 : ∀ x ∈ p6, x.block < W.heap.size := by obtain ⟨m, hm⟩ := k6; exact DataW.trod_lt m _ _ _ hm
  obtain ⟨ss6, hlen6, hr6, hn6⟩ : ∃ ss : List ByteArray, ss.length = len6 ∧ Reads W W.heap.size a6 ss ∧ ss.length * 16 ≤ 140737488351232 := by
    obtain ⟨fuel, hf⟩ := h6
    rcases open_strings Trym.underlying23 Trym.underlying9 cells9 hf with ⟨hcs, hx⟩ | ⟨a, len', cap', ss, hcs, _, hl, hm, hz, hx, hcell, hws⟩
    · simp [Value.cells] at hcs
      obtain ⟨rfl, rfl, rfl⟩ := hcs
      exact ⟨[], rfl, ⟨fun hp => absurd hp (by simp), fun s hs => by cases hs⟩, by simp⟩
    · simp [Value.cells] at hcs
      obtain ⟨rfl, rfl, rfl⟩ := hcs
      simp only [Prod.mk.injEq] at hx
      obtain ⟨rfl, rfl⟩ := hx
      simp only [if_true] at hz
      have hreach : len6 * 16 ≤ 140737488351232 := by
        have := sized_slice hsz (j := 6) (t := 23) (e := 9) rfl rfl Trym.underlying23
        rw [bytes9] at this
        simp only [strs, List.length_map, List.length_take, List.length_drop, reachBytes] at this
        omega
      have hlen : (ss.take len6).length = len6 := by rw [List.length_take]; omega
      refine ⟨ss.take len6, hlen, ⟨fun hp => ?_, fun s hs => hws s (List.mem_of_mem_take hs)⟩, by rw [hlen]; exact hreach⟩
      rw [hlen] at hp
      obtain ⟨b, off, spot⟩ := a
      have hspot : spot = none := by simpa [Addr.add] using World.cell?_spot (hcell 0 (by omega))
      subst hspot
      refine ⟨b, off, rfl, lt6 (.cell b off) (MemPlace.mem_row.2 ⟨0, by omega, by simp⟩), fun i hi => ?_⟩
      rw [hlen] at hi
      have hci := hcell i (by omega)
      rw [add_plain] at hci
      rw [hci, List.getD, List.getD, List.getElem?_take, if_pos hi]
  clear hA0 hval0 hsz
  subst hlen3
  subst hlen6
  refine (named_any hr3 hr6 hn3 hn6 cap3 cap6 a0 a1 a2 a4 a5 w0 w1 w2 w4 w5).mono fun e W' ⟨he, bel⟩ => ?_
  subst he
  exact ⟨_, rfl, _, _, _, [], _, [], hW', trodAll_mk1 (shut_bool Trym.underlying4 _), (trodAll_cons_mk (shut_string Trym.underlying9 w0) (trodAll_cons_mk (shut_string Trym.underlying9 w1) (trodAll_cons_mk (shut_string Trym.underlying9 w2) (trodAll_cons_mk (Below.trod laidOut (by kernel_rfl) (of_decide_eq_true (by kernel_rfl)) k3 bel lt3) (trodAll_cons_mk (shut_string Trym.underlying9 w4) (trodAll_cons_mk (shut_string Trym.underlying9 w5) (trodAll_cons_mk (Below.trod laidOut (by kernel_rfl) (of_decide_eq_true (by kernel_rfl)) k6 bel lt6) trodAll_mk0))))))), rfl, bel.frame _, fun h => by cases h⟩

theorem over : Rows.fnNamedHostDecidesRow.holds Trym.pinned (OpenSpec.ofChange Rows.fnNamedHostDecidesSpec) :=
  OpenClaim.holds_of_wide 7 Trym.f7 rfl rfl rfl rfl rfl rfl rfl ⟨rfl, rfl, rfl, rfl, rfl⟩ rfl rfl rfl rfl rfl (by kernel_rfl) Trym.func7 (by kernel_rfl)
    (of_decide_eq_true (by kernel_rfl)) (by unfold Func.isWrapper; first | (rw [if_pos (by decide +kernel)]; kernel_rfl) | (rw [if_neg (by decide +kernel)]; exact ⟨rfl, rfl⟩))
    (fun os started H enc _ => lifted os started H enc)

theorem proved : Rows.FnNamedHostDecidesSaid :=
  over
end Go.Proofs.Qxb6600359aMods.fnNamedHostDecides
namespace Go.Proofs.Qxb6600359aMods
theorem fnNamedHostDecides_proved : Rows.FnNamedHostDecidesSaid := fnNamedHostDecides.proved
end Go.Proofs.Qxb6600359aMods
