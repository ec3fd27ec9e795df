import Derived.Test.Qxb6603871aDoorTie
import Derived.Test.Qxb6603871aDoorCards
import Derived.Test.Qxb6603871aDoorScl
import Derived.Test.Qxb6603871aDoorScn
import Derived.SliceStrings
import Derived.Test.Qxb6603871aDoorLaid
import Derived.ProofKit
import Derived.OpenShut
import Derived.LaidMore
import Derived.Lay
import Derived.SevenTiedAt
import Derived.SizedLaws
import Derived.Stop.Joined
set_option linter.unusedVariables false
set_option linter.unusedSimpArgs false
namespace Go.Proofs.Qxb6603871aDoor
namespace FnTrackScriptKnowsHowAStatementOpens
open Go.ChangeShapes Go.WideShapes Go.ChangeAt Go.RowKit
open Go.ChangeMaps (open_string shut_string)

theorem own : ownKnob Tryd.prog.godebug = none := by kernel_rfl
theorem laidOut : laidOutB Tryd.prog = true := by kernel_rfl

theorem cells9 : Tryd.prog.cellsOf 9 = 1 := by kernel_rfl
theorem bytes9 : Tryd.prog.bytesOf 9 = 16 := by kernel_rfl
theorem weights_strs {H : Type} (e : TypeId) : ∀ (ss : List ByteArray) (s : ByteArray), s ∈ ss → s.size ∈ DataW.weightsAll Tryd.prog e (strs (H := H) ss)
  | [], _, h => by cases h
  | a :: r, s, h => by
    show _ ∈ DataW.weightsAll Tryd.prog e (DataW.lit (.string a.data.toList) :: strs r)
    rw [DataW.weightsAll]
    rcases List.mem_cons.1 h with rfl | h
    · exact List.mem_append.2 (.inl (by simp [DataW.weights]))
    · exact List.mem_append.2 (.inr (weights_strs e r s h))

set_option maxRecDepth 100000 in
theorem lifted (os : Os) (started : os.Started) (H : Type) (enc : TypeId × Value → H) :
    ReturnsInHanded {} Tryd.checked os 7 .any (fun w args => (Rows.fnTrackScriptKnowsHowAStatementOpensSpec.pre enc Tryd.prog Tryd.f7 Rows.fnTrackScriptKnowsHowAStatementOpensRow.domain false w args ∧ laidMetH Tryd.prog Rows.fnTrackScriptKnowsHowAStatementOpensRow.laid w) ∧ sizedMet enc Tryd.prog Tryd.f7 (OpenSpec.ofChange Rows.fnTrackScriptKnowsHowAStatementOpensSpec) false w args)
      (Rows.fnTrackScriptKnowsHowAStatementOpensSpec.post enc Tryd.prog Tryd.f7 false true false false) := by
  refine returnsInHanded_of_change_and (C := Tryd.checked) (X := fun w _ => laidMetH Tryd.prog Rows.fnTrackScriptKnowsHowAStatementOpensRow.laid w) (fun _ _ _ hh h => h.of_heap hh) own started (by kernel_rfl) Tryd.func7
    (ChangeSpec.witness_shaped (enc := enc) (C := Tryd.checked) (os := os) (X := fun w _ => laidMetH Tryd.prog Rows.fnTrackScriptKnowsHowAStatementOpensRow.laid w) false (World.laidAll Tryd.prog os Rows.fnTrackScriptKnowsHowAStatementOpensRow.laid) #[.int .i32 0, .slice none 0 0] 8 (World.laidAll_os _ _ _)
      (World.shaped_of_ZipB (by kernel_rfl) (by kernel_rfl)) (by kernel_rfl) (by kernel_rfl) (by kernel_rfl)
      (by rw [MakeChecks.laidMetH_plain _ _ _ (by kernel_rfl)]; exact laidMet_laidAll _ (by kernel_rfl) (by kernel_rfl))) ?_
  intro W base args ds gs before hval0 hW hc hsz0 hL _
  have hval : ∀ (j : Nat) t v, Tryd.f7.params[j]? = some t → args[j]? = some v → Value.okWide Tryd.prog W .any base t v := hval0
  have hW' := hW
  obtain ⟨p, q, hA0, hV, rfl, _, _⟩ := hW
  have hA : DataW.TrodAll enc Tryd.prog W 0 (fun _ => true) true Tryd.f7.params.toList args.toList ds p := hA0
  have hsz : (DataW.weightsEach Tryd.prog (Tryd.f7.params.toList ++ Rows.fnTrackScriptKnowsHowAStatementOpensSpec.plain.varTypes Tryd.prog) (ds ++ gs)).all (· ≤ reachBytes) = true := hsz0
  rw [Tryd.params7] at hA hval hsz
  obtain ⟨v0, vs0, d0, ds0, p0, q0, hargs, rfl, rfl, h0, r0⟩ := trodAll_cons hA
  obtain ⟨v1, vs1, d1, ds1, p1, q1, rfl, rfl, rfl, h1, r1⟩ := trodAll_cons r0
  obtain ⟨rfl, rfl, rfl⟩ := trodAll_nil r1
  obtain rfl : args = #[v0, v1] := by cases args; simp_all
  obtain ⟨rfl, rfl⟩ := trodVars_none hV
  obtain ⟨a0, rfl, rfl, rfl, w0⟩ := open_int Tryd.underlying21 (hval 0 21 v0 rfl rfl) h0
  obtain ⟨a1, len, cap, rfl⟩ := okWide_slice Tryd.underlying32 (hval 1 32 v1 rfl rfl)
  have h1k := h1
  obtain ⟨fuel, hf⟩ := h1
  clear hA0 hval0
  simp only [List.append_nil] at hW'
  have hlt : ∀ x ∈ p1, x.block < W.heap.size := fun x hx => by
    have := hW'.lt x (by simp [hx])
    simpa using this
  have fin : ∀ W', Below W.heap.size W W' → ∃ v, Ending.returned (.bool true) = .returned v ∧ Rows.fnTrackScriptKnowsHowAStatementOpensSpec.post enc Tryd.checked.prog Tryd.f7 false true false false W #[.int .i32 a0, .slice a1 len cap] v W' := by
    intro W' bel
    exact ⟨_, rfl, _, _, _, [], _, [], hW', trodAll_mk1 (shut_bool Tryd.underlying4 _), (trodAll_cons_mk (shut_int Tryd.underlying21 w0) (trodAll_cons_mk (Below.trod laidOut (by kernel_rfl) (of_decide_eq_true (by kernel_rfl)) h1k bel hlt) trodAll_mk0)), rfl, bel.frame _, fun h => by cases h⟩
  rcases open_strings Tryd.underlying32 Tryd.underlying9 cells9 hf with ⟨hcs, hx⟩ | ⟨a, len', cap', ss, hcs, _, hl, hm, hz, hx, hcell, hws⟩
  · simp [Value.cells] at hcs
    obtain ⟨rfl, rfl, rfl⟩ := hcs
    refine (sc_none a0 0 W).mono fun e W' ⟨he, bel⟩ => ?_
    subst he
    exact fin W' bel
  · simp [Value.cells] at hcs
    obtain ⟨rfl, rfl, rfl⟩ := hcs
    simp only [Prod.mk.injEq] at hx
    obtain ⟨rfl, rfl⟩ := hx
    simp only [if_true] at hz
    by_cases hl0 : len = 0
    · subst hl0
      refine (sc_zero a0 a cap W).mono fun e W' ⟨he, bel⟩ => ?_
      subst he
      exact fin W' bel
    · have hreach : len * 16 ≤ 140737488351232 := by
        have := sized_slice hsz (j := 1) (t := 32) (e := 9) rfl rfl Tryd.underlying32
        rw [bytes9] at this
        simp only [strs, List.length_map, List.length_take, List.length_drop, reachBytes] at this
        omega
      have hstr : ∀ s ∈ ss, s.size ≤ 140737488351232 := fun s hs => by
        have hm : s.size ∈ DataW.weights Tryd.prog 32 (DataW.slice (strs (H := H) (ss.take len)) (strs (ss.drop len))) := by
          rw [DataW.weights, Tryd.underlying32]
          refine List.mem_cons_of_mem _ (List.mem_append.2 ?_)
          rw [← List.take_append_drop len ss] at hs
          rcases List.mem_append.1 hs with h | h
          · exact .inl (weights_strs _ _ s h)
          · exact .inr (weights_strs _ _ s h)
        have := List.all_eq_true.1 hsz _ (DataW.weights_mem_each (j := 1) rfl rfl _ hm)
        exact of_decide_eq_true this
      obtain ⟨b, off, spot⟩ := a
      have hspot : spot = none := by simpa [Addr.add] using World.cell?_spot (hcell 0 (by omega))
      subst hspot
      have hbW : b < W.heap.size := hlt (.cell b off) (MemPlace.mem_row.2 ⟨0, by omega, by simp⟩)
      refine (sc_any a0 b off len cap ss W (by omega) (by omega) (fold_of_laid hL) (fun j hj => by rw [← add_none]; exact hcell j hj) (fun j => ?_) hbW).mono fun e W' ⟨he, bel⟩ => ?_
      · by_cases hj : j < ss.length
        · exact hstr _ (by rw [List.getD_eq_getElem?_getD, List.getElem?_eq_getElem hj]; exact List.getElem_mem hj)
        · rw [List.getD_eq_getElem?_getD, List.getElem?_eq_none (by omega)]; decide
      · subst he
        exact fin W' bel

theorem holds : Rows.FnTrackScriptKnowsHowAStatementOpensSaid :=
  OpenClaim.holds_of_wide 7 Tryd.f7 rfl rfl rfl rfl rfl rfl rfl ⟨rfl, rfl, rfl, rfl, rfl⟩ rfl rfl rfl rfl rfl (by kernel_rfl) Tryd.func7 (by kernel_rfl)
    (of_decide_eq_true (by kernel_rfl)) (by unfold Func.isWrapper; first | (rw [if_pos (by decide +kernel)]; kernel_rfl) | (rw [if_neg (by decide +kernel)]; exact ⟨rfl, rfl⟩))
    (fun os started H enc _ => lifted os started H enc)

theorem card_holds : Rows.FnTrackScriptKnowsHowAStatementOpensCardSaid :=
  Claim7.holds_tied_plain_at .later [] [.data, .data, .data, .pinned, .pinned] true (true, "0446e271ba6185f54bc61bc99324e27eadfe87a0908a7f2afa2b92063152687c") false
    holds (fun _ h => by cases h) (by kernel_rfl) (fun _ h => by cases h) fnTrackScriptKnowsHowAStatementOpens_row_tie rfl ⟨rfl, rfl⟩ (by kernel_rfl) rfl
    (fun f fn hf hfn => by
      obtain rfl : f = 7 := Option.some.inj ((show Tryd.prog.funcNamed Rows.fnTrackScriptKnowsHowAStatementOpensRow.func = some 7 by kernel_rfl).symm.trans hf) |>.symm
      obtain rfl : fn = Tryd.f7 := (Option.some.inj (Tryd.func7.symm.trans hfn)).symm
      exact ⟨by kernel_rfl, fun j t ht => by
        rw [Tryd.params7] at ht
        have hm : t ∈ [21, 32] := by simpa using Array.mem_of_getElem? ht
        have hall : ([21, 32].all fun u => !Tryd.prog.wantsStandIn u) = true := by kernel_rfl
        exact (show Tryd.prog.wantsStandIn t = false by simpa using List.all_eq_true.1 hall t hm)⟩)
    (by kernel_rfl)
end FnTrackScriptKnowsHowAStatementOpens

/-- THE STATEMENT. -/
theorem fnTrackScriptKnowsHowAStatementOpens_card : Rows.FnTrackScriptKnowsHowAStatementOpensCardSaid := FnTrackScriptKnowsHowAStatementOpens.card_holds
end Go.Proofs.Qxb6603871aDoor
