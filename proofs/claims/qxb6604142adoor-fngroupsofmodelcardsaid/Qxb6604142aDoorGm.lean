import Derived.Test.Qxb6604142aDoorTie
import Derived.Test.Qxb6604142aDoorCards
import Derived.Test.Qxb6604142aDoorLw
import Derived.ProofKit
import Derived.OpenShut
import Derived.LaidMore
import Derived.Lay
import Derived.SevenTiedAt
import Derived.SizedLaws
import Derived.Stop.Joined
set_option linter.unusedVariables false
set_option linter.unusedSimpArgs false
namespace Go.Proofs.Qxb6604142aDoor
namespace FnGroupsOfModel
open Go.ChangeShapes Go.WideShapes Go.ChangeAt Go.RowKit
open Go.ChangeMaps (open_string shut_string)

theorem own : ownKnob Tryd.prog.godebug = none := by kernel_rfl
theorem laidOut : laidOutB Tryd.prog = true := by kernel_rfl

set_option maxRecDepth 100000 in
theorem lifted (os : Os) (started : os.Started) (H : Type) (enc : TypeId × Value → H) :
    ReturnsInHanded {} Tryd.checked os 3 .any (fun w args => (Rows.fnGroupsOfModelSpec.pre enc Tryd.prog Tryd.f3 Rows.fnGroupsOfModelRow.domain false w args ∧ laidMetH Tryd.prog Rows.fnGroupsOfModelRow.laid w) ∧ sizedMet enc Tryd.prog Tryd.f3 (OpenSpec.ofChange Rows.fnGroupsOfModelSpec) false w args)
      (Rows.fnGroupsOfModelSpec.post enc Tryd.prog Tryd.f3 false true false false) := by
  refine returnsInHanded_of_calls (C := Tryd.checked) own started (by kernel_rfl)
    (ChangeSpec.witness_shaped (enc := enc) (C := Tryd.checked) (os := os) (X := fun w _ => laidMetH Tryd.prog Rows.fnGroupsOfModelRow.laid w) false (World.laidAll Tryd.prog os Rows.fnGroupsOfModelRow.laid) #[.string ByteArray.empty, .string ByteArray.empty] 8 (World.laidAll_os _ _ _)
      (World.shaped_of_ZipB (by kernel_rfl) (by kernel_rfl)) (by kernel_rfl) (by kernel_rfl) (by kernel_rfl)
      (by rw [MakeChecks.laidMetH_plain _ _ _ (by kernel_rfl)]; exact laidMet_laidAll _ (by kernel_rfl) (by kernel_rfl))) ?_
  intro w tape i _ hsh _ hok hpre _
  obtain ⟨_, _, _, fn', hfn', _, _, _, _, hval0⟩ := hok
  obtain rfl : fn' = Tryd.f3 := Option.some.inj (hfn'.symm.trans Tryd.func3)
  obtain ⟨⟨⟨ds, gs, before, hw, hc⟩, hL0⟩, hz⟩ := hpre
  have hW := DataW.Whole.of_heap (w' := w.forCall tape i) (by rfl) hw
  have hsz0 := hz.weights hw
  have hL : laidMetH Tryd.prog Rows.fnGroupsOfModelRow.laid (w.forCall tape i) := hL0.of_heap (by rfl)
  suffices hgo : Calls Tryd.prog 3 i.args (w.forCall tape i) fun e W' => ∃ v, e = .returned v ∧ Rows.fnGroupsOfModelSpec.post enc Tryd.prog Tryd.f3 false true false false (w.forCall tape i) i.args v W' by
    refine hgo.mono fun e W' ⟨v, he, hp⟩ => ?_
    subst he
    exact ChangeSpec.post_blind hp
  clear hw hz hL0
  generalize w.forCall tape i = W at *
  generalize i.args = args at *
  generalize w.heap.size = base at *
  have hval : ∀ (j : Nat) t v, Tryd.f3.params[j]? = some t → args[j]? = some v → Value.okWide Tryd.prog W .any base t v := hval0
  have hW' := hW
  obtain ⟨p, q, hA0, hV, rfl, _, _⟩ := hW
  have hA : DataW.TrodAll enc Tryd.prog W 0 (fun _ => true) true Tryd.f3.params.toList args.toList ds p := hA0
  have hsz : (DataW.weightsEach Tryd.prog (Tryd.f3.params.toList ++ Rows.fnGroupsOfModelSpec.plain.varTypes Tryd.prog) (ds ++ gs)).all (· ≤ reachBytes) = true := hsz0
  rw [Tryd.params3] at hA hval hsz
  obtain ⟨v0, vs0, d0, ds0, p0, q0, hargs, rfl, rfl, h0, r0⟩ := trodAll_cons hA
  obtain ⟨v1, vs1, d1, ds1, p1, q1, rfl, rfl, rfl, h1, r1⟩ := trodAll_cons r0
  obtain ⟨rfl, rfl, rfl⟩ := trodAll_nil r1
  obtain rfl : args = #[v0, v1] := by cases args; simp_all
  obtain ⟨rfl, rfl⟩ := trodVars_none hV
  obtain ⟨a0, rfl, rfl, rfl, w0⟩ := open_string Tryd.underlying9 (hval 0 9 v0 rfl rfl) h0
  obtain ⟨a1, rfl, rfl, rfl, w1⟩ := open_string Tryd.underlying9 (hval 1 9 v1 rfl rfl) h1
  clear hA0 hval0
  have z0 : a0.size ≤ 140737488351232 := by
    have := sized_string hsz (j := 0) (t := 9) rfl rfl
    simpa [reachBytes] using this
  have z1 : a1.size ≤ 140737488351232 := by
    have := sized_string hsz (j := 1) (t := 9) rfl rfl
    simpa [reachBytes] using this
  refine (law_any a0 a1 W hsh z0 z1).mono fun e W' ⟨he, bel⟩ => ?_
  subst he
  exact ⟨_, rfl, _, _, _, [], _, [], hW', trodAll_mk1 (shut_bool Tryd.underlying4 _), (trodAll_cons_mk (shut_string Tryd.underlying9 w0) (trodAll_cons_mk (shut_string Tryd.underlying9 w1) trodAll_mk0)), rfl, bel.frame _, fun h => by cases h⟩

theorem holds : Rows.FnGroupsOfModelSaid :=
  OpenClaim.holds_of_wide 3 Tryd.f3 rfl rfl rfl rfl rfl rfl rfl ⟨rfl, rfl, rfl, rfl, rfl⟩ rfl rfl rfl rfl rfl (by kernel_rfl) Tryd.func3 (by kernel_rfl)
    (of_decide_eq_true (by kernel_rfl)) (by unfold Func.isWrapper; first | (rw [if_pos (by decide +kernel)]; kernel_rfl) | (rw [if_neg (by decide +kernel)]; exact ⟨rfl, rfl⟩))
    (fun os started H enc _ => lifted os started H enc)

theorem card_holds : Rows.FnGroupsOfModelCardSaid :=
  Claim7.holds_tied_plain_at .later [] [.data, .pinned] true (true, "afe3956ab08858b3aaaac237f623e637ebd279462b1f71e1b00c7a97e061a069") false
    holds (fun _ h => by cases h) (by kernel_rfl) (fun _ h => by cases h) fnGroupsOfModel_row_tie rfl ⟨rfl, rfl⟩ (by kernel_rfl) rfl
    (fun f fn hf hfn => by
      obtain rfl : f = 3 := Option.some.inj ((show Tryd.prog.funcNamed Rows.fnGroupsOfModelRow.func = some 3 by kernel_rfl).symm.trans hf) |>.symm
      obtain rfl : fn = Tryd.f3 := (Option.some.inj (Tryd.func3.symm.trans hfn)).symm
      exact ⟨by kernel_rfl, fun j t ht => by
        rw [Tryd.params3] at ht
        have hm : t ∈ [9, 9] := by simpa using Array.mem_of_getElem? ht
        have hall : ([9, 9].all fun u => !Tryd.prog.wantsStandIn u) = true := by kernel_rfl
        exact (show Tryd.prog.wantsStandIn t = false by simpa using List.all_eq_true.1 hall t hm)⟩)
    (by kernel_rfl)
end FnGroupsOfModel

/-- THE STATEMENT. -/
theorem fnGroupsOfModel_card : Rows.FnGroupsOfModelCardSaid := FnGroupsOfModel.card_holds
end Go.Proofs.Qxb6604142aDoor
