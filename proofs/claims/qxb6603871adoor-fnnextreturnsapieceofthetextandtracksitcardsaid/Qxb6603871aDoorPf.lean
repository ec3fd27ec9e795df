import Derived.Test.Qxb6603871aDoorTie
import Derived.Test.Qxb6603871aDoorCards
import Derived.Test.Qxb6603871aDoorPc
import Derived.Test.Qxb6603871aDoorLaid
import Derived.ProofKit
import Derived.OpenShut
import Derived.LaidMore
import Derived.Lay
import Derived.SevenTiedAt
import Derived.SizedLaws
import Derived.Stop.Joined
set_option linter.unusedVariables false
set_option linter.unusedSimpArgs false
namespace Go.Proofs.Qxb6603871aDoor
namespace FnNextReturnsAPieceOfTheTextAndTracksIt
open Go.ChangeShapes Go.WideShapes Go.ChangeAt Go.RowKit
open Go.ChangeMaps (open_string shut_string)

theorem own : ownKnob Tryd.prog.godebug = none := by kernel_rfl
theorem laidOut : laidOutB Tryd.prog = true := by kernel_rfl

set_option maxRecDepth 100000 in
theorem lifted (os : Os) (started : os.Started) (H : Type) (enc : TypeId × Value → H) :
    ReturnsInHanded {} Tryd.checked os 4 .any (fun w args => (Rows.fnNextReturnsAPieceOfTheTextAndTracksItSpec.pre enc Tryd.prog Tryd.f4 Rows.fnNextReturnsAPieceOfTheTextAndTracksItRow.domain false w args ∧ laidMetH Tryd.prog Rows.fnNextReturnsAPieceOfTheTextAndTracksItRow.laid w) ∧ sizedMet enc Tryd.prog Tryd.f4 (OpenSpec.ofChange Rows.fnNextReturnsAPieceOfTheTextAndTracksItSpec) false w args)
      (Rows.fnNextReturnsAPieceOfTheTextAndTracksItSpec.post enc Tryd.prog Tryd.f4 false true false false) := by
  refine returnsInHanded_of_calls (C := Tryd.checked) own started (by kernel_rfl)
    (ChangeSpec.witness_shaped (enc := enc) (C := Tryd.checked) (os := os) (X := fun w _ => laidMetH Tryd.prog Rows.fnNextReturnsAPieceOfTheTextAndTracksItRow.laid w) false (World.laidAll Tryd.prog os Rows.fnNextReturnsAPieceOfTheTextAndTracksItRow.laid) #[.string ByteArray.empty, .int .i64 0, .int .i32 0, .int .i64 0, .string ByteArray.empty, .bool false, .bool false, .int .i64 0, .bool false, .bool false] 8 (World.laidAll_os _ _ _)
      (World.shaped_of_ZipB (by kernel_rfl) (by kernel_rfl)) (by kernel_rfl) (by kernel_rfl) (by kernel_rfl)
      (by rw [MakeChecks.laidMetH_plain _ _ _ (by kernel_rfl)]; exact laidMet_laidAll _ (by kernel_rfl) (by kernel_rfl))) ?_
  intro w tape i _ hsh _ hok hpre _
  obtain ⟨_, _, _, fn', hfn', _, _, _, _, hval0⟩ := hok
  obtain rfl : fn' = Tryd.f4 := Option.some.inj (hfn'.symm.trans Tryd.func4)
  obtain ⟨⟨⟨ds, gs, before, hw, hc⟩, hL0⟩, hz⟩ := hpre
  have hW := DataW.Whole.of_heap (w' := w.forCall tape i) (by rfl) hw
  have hsz0 := hz.weights hw
  have hL : laidMetH Tryd.prog Rows.fnNextReturnsAPieceOfTheTextAndTracksItRow.laid (w.forCall tape i) := hL0.of_heap (by rfl)
  suffices hgo : Calls Tryd.prog 4 i.args (w.forCall tape i) fun e W' => ∃ v, e = .returned v ∧ Rows.fnNextReturnsAPieceOfTheTextAndTracksItSpec.post enc Tryd.prog Tryd.f4 false true false false (w.forCall tape i) i.args v W' by
    refine hgo.mono fun e W' ⟨v, he, hp⟩ => ?_
    subst he
    exact ChangeSpec.post_blind hp
  clear hw hz hL0
  generalize w.forCall tape i = W at *
  generalize i.args = args at *
  generalize w.heap.size = base at *
  obtain ⟨m0, hm0⟩ := Tryd.laysM143.s1_3 W hsh
  have hval : ∀ (j : Nat) t v, Tryd.f4.params[j]? = some t → args[j]? = some v → Value.okWide Tryd.prog W .any base t v := hval0
  have hW' := hW
  obtain ⟨p, q, hA0, hV, rfl, _, _⟩ := hW
  have hA : DataW.TrodAll enc Tryd.prog W 0 (fun _ => true) true Tryd.f4.params.toList args.toList ds p := hA0
  have hsz : (DataW.weightsEach Tryd.prog (Tryd.f4.params.toList ++ Rows.fnNextReturnsAPieceOfTheTextAndTracksItSpec.plain.varTypes Tryd.prog) (ds ++ gs)).all (· ≤ reachBytes) = true := hsz0
  rw [Tryd.params4] at hA hval hsz
  obtain ⟨v0, vs0, d0, ds0, p0, q0, hargs, rfl, rfl, h0, r0⟩ := trodAll_cons hA
  obtain ⟨v1, vs1, d1, ds1, p1, q1, rfl, rfl, rfl, h1, r1⟩ := trodAll_cons r0
  obtain ⟨v2, vs2, d2, ds2, p2, q2, rfl, rfl, rfl, h2, r2⟩ := trodAll_cons r1
  obtain ⟨v3, vs3, d3, ds3, p3, q3, rfl, rfl, rfl, h3, r3⟩ := trodAll_cons r2
  obtain ⟨v4, vs4, d4, ds4, p4, q4, rfl, rfl, rfl, h4, r4⟩ := trodAll_cons r3
  obtain ⟨v5, vs5, d5, ds5, p5, q5, rfl, rfl, rfl, h5, r5⟩ := trodAll_cons r4
  obtain ⟨v6, vs6, d6, ds6, p6, q6, rfl, rfl, rfl, h6, r6⟩ := trodAll_cons r5
  obtain ⟨v7, vs7, d7, ds7, p7, q7, rfl, rfl, rfl, h7, r7⟩ := trodAll_cons r6
  obtain ⟨v8, vs8, d8, ds8, p8, q8, rfl, rfl, rfl, h8, r8⟩ := trodAll_cons r7
  obtain ⟨v9, vs9, d9, ds9, p9, q9, rfl, rfl, rfl, h9, r9⟩ := trodAll_cons r8
  obtain ⟨rfl, rfl, rfl⟩ := trodAll_nil r9
  obtain rfl : args = #[v0, v1, v2, v3, v4, v5, v6, v7, v8, v9] := by cases args; simp_all
  obtain ⟨rfl, rfl⟩ := trodVars_none hV
  obtain ⟨a0, rfl, rfl, rfl, w0⟩ := open_string Tryd.underlying9 (hval 0 9 v0 rfl rfl) h0
  obtain ⟨a1, rfl, rfl, rfl, w1⟩ := open_int Tryd.underlying3 (hval 1 3 v1 rfl rfl) h1
  obtain ⟨a2, rfl, rfl, rfl, w2⟩ := open_int Tryd.underlying21 (hval 2 21 v2 rfl rfl) h2
  obtain ⟨a3, rfl, rfl, rfl, w3⟩ := open_int Tryd.underlying3 (hval 3 3 v3 rfl rfl) h3
  obtain ⟨a4, rfl, rfl, rfl, w4⟩ := open_string Tryd.underlying9 (hval 4 9 v4 rfl rfl) h4
  obtain ⟨a5, rfl, rfl, rfl⟩ := open_bool Tryd.underlying4 (hval 5 4 v5 rfl rfl) h5
  obtain ⟨a6, rfl, rfl, rfl⟩ := open_bool Tryd.underlying4 (hval 6 4 v6 rfl rfl) h6
  obtain ⟨a7, rfl, rfl, rfl, w7⟩ := open_int Tryd.underlying3 (hval 7 3 v7 rfl rfl) h7
  obtain ⟨a8, rfl, rfl, rfl⟩ := open_bool Tryd.underlying4 (hval 8 4 v8 rfl rfl) h8
  obtain ⟨a9, rfl, rfl, rfl⟩ := open_bool Tryd.underlying4 (hval 9 4 v9 rfl rfl) h9
  clear hA0 hval0
  have z0 : a0.size ≤ 140737488351232 := by
    have := sized_string hsz (j := 0) (t := 9) rfl rfl
    simpa [reachBytes] using this
  have z4 : a4.size ≤ 140737488351232 := by
    have := sized_string hsz (j := 4) (t := 9) rfl rfl
    simpa [reachBytes] using this
  refine (pc_any a0 a1 a2 a3 a4 a5 a6 a7 a8 a9 W m0 hm0 (fold_of_laid hL) z0 z4).mono fun e W' ⟨he, bel⟩ => ?_
  subst he
  exact ⟨_, rfl, _, _, _, [], _, [], hW', trodAll_mk1 (shut_bool Tryd.underlying4 _), (trodAll_cons_mk (shut_string Tryd.underlying9 w0) (trodAll_cons_mk (shut_int Tryd.underlying3 w1) (trodAll_cons_mk (shut_int Tryd.underlying21 w2) (trodAll_cons_mk (shut_int Tryd.underlying3 w3) (trodAll_cons_mk (shut_string Tryd.underlying9 w4) (trodAll_cons_mk (shut_bool Tryd.underlying4 _) (trodAll_cons_mk (shut_bool Tryd.underlying4 _) (trodAll_cons_mk (shut_int Tryd.underlying3 w7) (trodAll_cons_mk (shut_bool Tryd.underlying4 _) (trodAll_cons_mk (shut_bool Tryd.underlying4 _) trodAll_mk0)))))))))), rfl, bel.frame _, fun h => by cases h⟩

theorem holds : Rows.FnNextReturnsAPieceOfTheTextAndTracksItSaid :=
  OpenClaim.holds_of_wide 4 Tryd.f4 rfl rfl rfl rfl rfl rfl rfl ⟨rfl, rfl, rfl, rfl, rfl⟩ rfl rfl rfl rfl rfl (by kernel_rfl) Tryd.func4 (by kernel_rfl)
    (of_decide_eq_true (by kernel_rfl)) (by unfold Func.isWrapper; first | (rw [if_pos (by decide +kernel)]; kernel_rfl) | (rw [if_neg (by decide +kernel)]; exact ⟨rfl, rfl⟩))
    (fun os started H enc _ => lifted os started H enc)

theorem card_holds : Rows.FnNextReturnsAPieceOfTheTextAndTracksItCardSaid :=
  Claim7.holds_tied_plain_at .later [] [.data, .data, .data, .pinned, .pinned] true (true, "0446e271ba6185f54bc61bc99324e27eadfe87a0908a7f2afa2b92063152687c") false
    holds (fun _ h => by cases h) (by kernel_rfl) (fun _ h => by cases h) fnNextReturnsAPieceOfTheTextAndTracksIt_row_tie rfl ⟨rfl, rfl⟩ (by kernel_rfl) rfl
    (fun f fn hf hfn => by
      obtain rfl : f = 4 := Option.some.inj ((show Tryd.prog.funcNamed Rows.fnNextReturnsAPieceOfTheTextAndTracksItRow.func = some 4 by kernel_rfl).symm.trans hf) |>.symm
      obtain rfl : fn = Tryd.f4 := (Option.some.inj (Tryd.func4.symm.trans hfn)).symm
      exact ⟨by kernel_rfl, fun j t ht => by
        rw [Tryd.params4] at ht
        have hm : t ∈ [9, 3, 21, 3, 9, 4, 4, 3, 4, 4] := by simpa using Array.mem_of_getElem? ht
        have hall : ([9, 3, 21, 3, 9, 4, 4, 3, 4, 4].all fun u => !Tryd.prog.wantsStandIn u) = true := by kernel_rfl
        exact (show Tryd.prog.wantsStandIn t = false by simpa using List.all_eq_true.1 hall t hm)⟩)
    (by kernel_rfl)
end FnNextReturnsAPieceOfTheTextAndTracksIt

/-- THE STATEMENT. -/
theorem fnNextReturnsAPieceOfTheTextAndTracksIt_card : Rows.FnNextReturnsAPieceOfTheTextAndTracksItCardSaid := FnNextReturnsAPieceOfTheTextAndTracksIt.card_holds
end Go.Proofs.Qxb6603871aDoor
