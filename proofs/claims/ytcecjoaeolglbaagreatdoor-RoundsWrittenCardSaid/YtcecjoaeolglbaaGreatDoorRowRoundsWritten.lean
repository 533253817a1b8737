/-
  The statement RoundsWritten of the given program: proved for every input, without a condition of ours: the printed walk of the call, and the pure statement about what it computes.
-/
import Derived.Test.YtcecjoaeolglbaaGreatDoorRows
import Derived.Test.YtcecjoaeolglbaaGreatDoorTie
import Derived.Test.YtcecjoaeolglbaaGreatDoorCards
import Derived.Test.YtcecjoaeolglbaaGreatDoorZtRoundsWrittenb
import Derived.WalkKit
import Derived.ProofKit
import Derived.OpenShut
import Derived.ShutString
import Derived.ChangeOld
import Derived.Below
import Derived.SizedLaws
import Derived.LaidMore
import Derived.Lay
import Derived.SevenTiedAt
import Derived.Stop.Joined
namespace Go.Proofs.YtcecjoaeolglbaaGreatDoor.roundsWritten
open Go.ChangeShapes Go.WideShapes Go.ChangeAt Go.RowKit
open Go.ChangeMaps (open_string shut_string)
set_option linter.unusedVariables false
theorem own : ownKnob Tryz.prog.godebug = none := by kernel_rfl
set_option maxRecDepth 100000 in
theorem lifted (os : Os) (started : os.Started) (H : Type) (enc : TypeId × Value → H) :
    ReturnsInHanded {} Tryz.checked os 6 .any (fun w args => (Rows.roundsWrittenSpec.pre enc Tryz.prog Tryz.f6 Rows.roundsWrittenRow.domain false w args ∧ laidMetH Tryz.prog Rows.roundsWrittenRow.laid w) ∧ sizedMet enc Tryz.prog Tryz.f6 (OpenSpec.ofChange Rows.roundsWrittenSpec) false w args)
      (Rows.roundsWrittenSpec.post enc Tryz.prog Tryz.f6 false true false false) := by
  refine RowKit.handed_and_shaped (C := Tryz.checked) (X := fun w _ => laidMetH Tryz.prog Rows.roundsWrittenRow.laid w) (fun _ _ _ hh h => h.of_heap hh) own started (by kernel_rfl) Tryz.func6
    (ChangeSpec.witness_shaped (enc := enc) (C := Tryz.checked) (os := os) (X := fun w _ => laidMetH Tryz.prog Rows.roundsWrittenRow.laid w) false (World.laidAll Tryz.prog os Rows.roundsWrittenRow.laid) #[.int .u8 0, .string ByteArray.empty, .string ByteArray.empty] 8 (World.laidAll_os _ _ _)
      (World.shaped_of_ZipB (by kernel_rfl) (by kernel_rfl)) (by kernel_rfl) (by kernel_rfl) (by kernel_rfl)
      (by rw [MakeChecks.laidMetH_plain _ _ _ (by kernel_rfl)]; exact laidMet_laidAll _ (by kernel_rfl) (by kernel_rfl))) ?_
  intro W base args ds gs before hval0 hW hsz0 hlaid hsh
  have hsz : (DataW.weightsEach Tryz.prog (Tryz.f6.params.toList ++ Rows.roundsWrittenSpec.plain.varTypes Tryz.prog) (ds ++ gs)).all (· ≤ reachBytes) = true := hsz0
  have hval : ∀ (j : Nat) t v, Tryz.f6.params[j]? = some t → args[j]? = some v → Value.okWide Tryz.prog W .any base t v := hval0
  have hW' := hW
  obtain ⟨p, q, hA0, hV, rfl, hfz, hnd⟩ := hW
  have hA : DataW.TrodAll enc Tryz.prog W 0 (fun _ => true) true Tryz.f6.params.toList args.toList ds p := hA0
  rw [Tryz.params6] at hA hval hsz
  obtain ⟨v0, vs0, d0, ds0, p0, q0, hargs, rfl, rfl, h0, r0⟩ := trodAll_cons hA
  obtain ⟨v1, vs1, d1, ds1, p1, q1, rfl, rfl, rfl, h1, r1⟩ := trodAll_cons r0
  obtain ⟨v2, vs2, d2, ds2, p2, q2, rfl, rfl, rfl, h2, r2⟩ := trodAll_cons r1
  obtain ⟨rfl, rfl, rfl⟩ := trodAll_nil r2
  obtain rfl : args = #[v0, v1, v2] := by cases args; simp_all
  obtain ⟨rfl, rfl⟩ := trodVars_none hV
  obtain ⟨a0, rfl, rfl, rfl, w0⟩ := open_int Tryz.underlying5 (hval 0 5 v0 rfl rfl) h0
  obtain ⟨a1, rfl, rfl, rfl, y1⟩ := open_string Tryz.underlying9 (hval 1 9 v1 rfl rfl) h1
  have w1 : a1.size ≤ 140737488351232 := by
    have z := sized_string hsz (j := 1) (t := 9) rfl rfl
    rw [Array.length_toList] at z
    exact z
  obtain ⟨a2, rfl, rfl, rfl, y2⟩ := open_string Tryz.underlying9 (hval 2 9 v2 rfl rfl) h2
  have w2 : a2.size ≤ 140737488351232 := by
    have z := sized_string hsz (j := 2) (t := 9) rfl rfl
    rw [Array.length_toList] at z
    exact z
  clear hA0 hval0 hsz0 hsz
  refine (Hand.RoundsWritten_law a0 a1 a2 W w0 w1 w2 (RowKit.glob_of_laid hsh hlaid (by kernel_rfl) (List.mem_of_getElem? (i := 5) rfl))).mono fun e W' ⟨he, bel⟩ => ?_
  subst he
  exact ⟨_, rfl, _, _, _, [], _, [], hW', trodAll_mk1 (shut_bool Tryz.underlying4 _), (trodAll_cons_mk (shut_int Tryz.underlying5 w0) (trodAll_cons_mk (shut_string Tryz.underlying9 y1) (trodAll_cons_mk (shut_string Tryz.underlying9 y2) trodAll_mk0))), rfl, bel.frame _, fun h => by cases h⟩
theorem k1 : (Rows.roundsWrittenRow.wf (OpenSpec.ofChange Rows.roundsWrittenSpec)) = true := by kernel_rfl
theorem k4 : (Tryz.f6.params.all (Tryz.prog.readableRec ·)) = true := by kernel_rfl
theorem k5 : (namedTie Tryz.prog Rows.roundsWrittenRow.named Rows.roundsWrittenSpec.vars) = true := by kernel_rfl
theorem k6 : (Rows.roundsWrittenRow.stops == []) = true := by kernel_rfl
theorem k8 : (Rows.roundsWrittenRow.knobs == []) = true := by kernel_rfl
theorem k10 : (Rows.roundsWrittenRow.inPlace == Tryz.prog.inPlace 6) = true := by kernel_rfl
theorem k11 : (Rows.roundsWrittenRow.unfollowed == Tryz.prog.unfollowed 6) = true := by kernel_rfl
theorem k12 : (Rows.roundsWrittenRow.recurses == Tryz.prog.recurses 6) = true := by kernel_rfl
theorem k13 : (Rows.roundsWrittenRow.named == Tryz.prog.varsNamed 6) = true := by kernel_rfl
theorem k14 : (Rows.roundsWrittenRow.maps == (Tryz.f6.params.toList ++ Rows.roundsWrittenSpec.plain.varTypes Tryz.prog).any (Tryz.prog.mapsRec ·)) = true := by kernel_rfl
theorem k15 : (Rows.roundsWrittenRow.ifaces == (Tryz.f6.params.toList ++ Rows.roundsWrittenSpec.plain.varTypes Tryz.prog).any (Tryz.prog.ifacesRec ·)) = true := by kernel_rfl
theorem k16 : (Rows.roundsWrittenRow.mapsOut == Tryz.prog.mapsAmong Tryz.f6.resultTypes.toList) = true := by kernel_rfl
theorem k17 : (Rows.roundsWrittenRow.loops == (Tryz.f6.params.toList ++ Rows.roundsWrittenSpec.plain.varTypes Tryz.prog).any (Tryz.prog.loopsFrom ·)) = true := by kernel_rfl
theorem k18 : (Rows.roundsWrittenRow.wideKeys == (Tryz.f6.params.toList ++ Rows.roundsWrittenSpec.plain.varTypes Tryz.prog ++ Tryz.f6.resultTypes.toList).any (Tryz.prog.wideKeysFrom ·)) = true := by kernel_rfl
theorem k19 : (Rows.roundsWrittenSpec.vars.all (Tryz.prog.varReadable ·)) = true := by kernel_rfl
theorem k20 : (Tryz.f6.resultTypes.all (fun t => Tryz.prog.readableRec t && decide (t < Tryz.prog.types.size))) = true := by kernel_rfl
theorem k21 : (Rows.roundsWrittenRow.ifacesOut == Tryz.f6.resultTypes.toList.any (Tryz.prog.ifacesRec ·)) = true := by kernel_rfl
theorem k22 : (Rows.roundsWrittenRow.loopsOut == Tryz.f6.resultTypes.toList.any (Tryz.prog.loopsFrom ·)) = true := by kernel_rfl
theorem k24 : (Rows.roundsWrittenRow.shortTexts.isNone) = true := by kernel_rfl
theorem k30 : (Rows.roundsWrittenRow.pinned == Rows.roundsWrittenRow.pinnedBy) = true := by kernel_rfl
theorem k31 : (Rows.roundsWrittenRow.veiled == (Tryz.f6.params.toList ++ Rows.roundsWrittenSpec.plain.varTypes Tryz.prog ++ Tryz.f6.resultTypes.toList).any (Tryz.prog.veiledRec ·)) = true := by kernel_rfl
theorem k32 : (Rows.roundsWrittenRow.veiledFits Tryz.prog Tryz.f6.params.toList (Tryz.f6.params.toList ++ Rows.roundsWrittenSpec.plain.varTypes Tryz.prog ++ Tryz.f6.resultTypes.toList)) = true := by kernel_rfl
theorem named_is : Tryz.prog.funcNamed Rows.roundsWrittenRow.func = some 6 := by kernel_rfl
theorem inst_is : Tryz.f6.isInstance Tryz.prog Rows.roundsWrittenRow.origin Rows.roundsWrittenRow.targs := of_decide_eq_true (by kernel_rfl)
theorem over : Rows.RoundsWrittenSaid :=
  OpenClaim.holds_of_wide 6 Tryz.f6 rfl rfl rfl rfl rfl rfl rfl ⟨rfl, rfl, rfl, rfl, rfl⟩ rfl rfl rfl rfl rfl named_is Tryz.func6
    (RowKit.joined k1 k4 k5 k6 k8 k10 k11 k12 k13 k14 k15 k16 k17 k18 k19 k20 k21 k22 rfl k24 rfl rfl rfl rfl k30 k31 k32)
    inst_is (by unfold Func.isWrapper; first | (rw [if_pos (by decide +kernel)]; kernel_rfl) | (rw [if_neg (by decide +kernel)]; exact ⟨rfl, rfl⟩))
    (fun os started H enc _ => lifted os started H enc)
theorem card_wf : Rows.roundsWrittenRow.wfByText (OpenSpec.ofChange Rows.roundsWrittenSpec) = true := by kernel_rfl
theorem card_main : Tryz.prog.mainIs = some (Rows.roundsWrittenCard.stood.harness.1, Rows.roundsWrittenCard.stood.harness.2.toList) := RowKit.main_is
theorem card_goes : false = Rows.roundsWrittenRow.goesBy Tryz.prog := by kernel_rfl
theorem card_looks : true = Tryz.prog.looks [] := RowKit.looks_is.symm
theorem card_stand : ([5, 9, 9].all fun u => !Tryz.prog.wantsStandIn u) = true := by kernel_rfl
theorem card_holds : Rows.RoundsWrittenCardSaid :=
  Claim7.holds_tied_plain_at .later [] [.data, .data, .data, .data, .sentinel, .sentinel, .pinned] true Rows.roundsWrittenCard.stood.harness true over (fun _ h => by cases h) card_wf (fun _ h => by cases h) roundsWritten_row_tie rfl ⟨rfl, rfl⟩ card_main rfl
    (fun f fn hf hfn => by
      obtain rfl : f = 6 := Option.some.inj (named_is.symm.trans hf) |>.symm
      obtain rfl : fn = Tryz.f6 := (Option.some.inj (Tryz.func6.symm.trans hfn)).symm
      exact ⟨card_looks, fun j t ht => by
        rw [Tryz.params6] at ht
        have hm : t ∈ [5, 9, 9] := by simpa using Array.mem_of_getElem? ht
        exact (show Tryz.prog.wantsStandIn t = false by simpa using List.all_eq_true.1 card_stand t hm)⟩)
    card_goes
end Go.Proofs.YtcecjoaeolglbaaGreatDoor.roundsWritten
namespace Go.Proofs.YtcecjoaeolglbaaGreatDoor
theorem roundsWritten_holds : Rows.RoundsWrittenCardSaid := roundsWritten.card_holds
#print axioms roundsWritten_holds
end Go.Proofs.YtcecjoaeolglbaaGreatDoor
