/-
  The statement DoctypeCase of the given program: proved for every input, without a condition of ours: the printed walk of the call, and the pure statement about what it computes.
-/
import Derived.Test.YtajfpegacbohdaaDoorRows
import Derived.Test.YtajfpegacbohdaaDoorTie
import Derived.Test.YtajfpegacbohdaaDoorCards
import Derived.Test.YtajfpegacbohdaaDoorHaDoC
import Derived.Test.YtajfpegacbohdaaDoorRowKit
import Derived.WalkKit
import Derived.ProofKit
import Derived.OpenShut
import Derived.ShutString
import Derived.ChangeOld
import Derived.Below
import Derived.SizedLaws
import Derived.LaidMore
import Derived.Lay
import Derived.SevenTiedAt
import Derived.Stop.Joined
namespace Go.Proofs.YtajfpegacbohdaaDoor.doctypeCase
open Go.ChangeShapes Go.WideShapes Go.ChangeAt Go.RowKit
open Go.ChangeMaps (open_string shut_string)
set_option linter.unusedVariables false
theorem own : ownKnob Tryd.prog.godebug = none := by kernel_rfl
set_option maxRecDepth 100000 in
theorem lifted (os : Os) (started : os.Started) (H : Type) (enc : TypeId × Value → H) :
    ReturnsInHanded {} Tryd.checked os 4 .any (fun w args => (Rows.doctypeCaseSpec.pre enc Tryd.prog Tryd.f4 Rows.doctypeCaseRow.domain false w args ∧ laidMetH Tryd.prog Rows.doctypeCaseRow.laid w) ∧ sizedMet enc Tryd.prog Tryd.f4 (OpenSpec.ofChange Rows.doctypeCaseSpec) false w args)
      (Rows.doctypeCaseSpec.post enc Tryd.prog Tryd.f4 false true false false) := by
  refine RowKit.handed_and_shaped (C := Tryd.checked) (X := fun w _ => laidMetH Tryd.prog Rows.doctypeCaseRow.laid w) (fun _ _ _ hh h => h.of_heap hh) own started (by kernel_rfl) Tryd.func4
    (ChangeSpec.witness_shaped (enc := enc) (C := Tryd.checked) (os := os) (X := fun w _ => laidMetH Tryd.prog Rows.doctypeCaseRow.laid w) false (World.laidAll Tryd.prog os Rows.doctypeCaseRow.laid) #[.string ByteArray.empty, .bool false] 8 (World.laidAll_os _ _ _)
      (World.shaped_of_ZipB (by kernel_rfl) (by kernel_rfl)) (by kernel_rfl) (by kernel_rfl) (by kernel_rfl)
      (by rw [MakeChecks.laidMetH_plain _ _ _ (by kernel_rfl)]; exact laidMet_laidAll _ (by kernel_rfl) (by kernel_rfl))) ?_
  intro W base args ds gs before hval0 hW hsz0 _ hsh
  have hsz : (DataW.weightsEach Tryd.prog (Tryd.f4.params.toList ++ Rows.doctypeCaseSpec.plain.varTypes Tryd.prog) (ds ++ gs)).all (· ≤ reachBytes) = true := hsz0
  have hval : ∀ (j : Nat) t v, Tryd.f4.params[j]? = some t → args[j]? = some v → Value.okWide Tryd.prog W .any base t v := hval0
  have hW' := hW
  obtain ⟨p, q, hA0, hV, rfl, hfz, hnd⟩ := hW
  have hA : DataW.TrodAll enc Tryd.prog W 0 (fun _ => true) true Tryd.f4.params.toList args.toList ds p := hA0
  rw [Tryd.params4] at hA hval hsz
  obtain ⟨v0, vs0, d0, ds0, p0, q0, hargs, rfl, rfl, h0, r0⟩ := trodAll_cons hA
  obtain ⟨v1, vs1, d1, ds1, p1, q1, rfl, rfl, rfl, h1, r1⟩ := trodAll_cons r0
  obtain ⟨rfl, rfl, rfl⟩ := trodAll_nil r1
  obtain rfl : args = #[v0, v1] := by cases args; simp_all
  obtain ⟨rfl, rfl⟩ := trodVars_none hV
  obtain ⟨a0, rfl, rfl, rfl, y0⟩ := open_string Tryd.underlying9 (hval 0 9 v0 rfl rfl) h0
  have w0 : a0.size ≤ 140737488351232 := by
    have z := sized_string hsz (j := 0) (t := 9) rfl rfl
    rw [Array.length_toList] at z
    exact z
  obtain ⟨a1, rfl, rfl, rfl⟩ := open_bool Tryd.underlying4 (hval 1 4 v1 rfl rfl) h1
  clear hA0 hval0 hsz0 hsz
  refine (Hand.DoctypeCase_law a0 a1 W w0 (RowKit.glob_of_shape hsh)).mono fun e W' ⟨he, bel⟩ => ?_
  subst he
  exact ⟨_, rfl, _, _, _, [], _, [], hW', trodAll_mk1 (shut_bool Tryd.underlying4 _), (trodAll_cons_mk (shut_string Tryd.underlying9 y0) (trodAll_cons_mk (shut_bool Tryd.underlying4 _) trodAll_mk0)), rfl, bel.frame _, fun h => by cases h⟩
theorem k1 : (Rows.doctypeCaseRow.wf (OpenSpec.ofChange Rows.doctypeCaseSpec)) = true := by kernel_rfl
theorem k4 : (Tryd.f4.params.all (Tryd.prog.readableRec ·)) = true := by kernel_rfl
theorem k5 : (namedTie Tryd.prog Rows.doctypeCaseRow.named Rows.doctypeCaseSpec.vars) = true := by kernel_rfl
theorem k6 : (Rows.doctypeCaseRow.stops == []) = true := by kernel_rfl
theorem k8 : (Rows.doctypeCaseRow.knobs == []) = true := by kernel_rfl
theorem k10 : (Rows.doctypeCaseRow.inPlace == Tryd.prog.inPlace 4) = true := by kernel_rfl
theorem k11 : (Rows.doctypeCaseRow.unfollowed == Tryd.prog.unfollowed 4) = true := by kernel_rfl
theorem k12 : (Rows.doctypeCaseRow.recurses == Tryd.prog.recurses 4) = true := by kernel_rfl
theorem k13 : (Rows.doctypeCaseRow.named == Tryd.prog.varsNamed 4) = true := by kernel_rfl
theorem k14 : (Rows.doctypeCaseRow.maps == (Tryd.f4.params.toList ++ Rows.doctypeCaseSpec.plain.varTypes Tryd.prog).any (Tryd.prog.mapsRec ·)) = true := by kernel_rfl
theorem k15 : (Rows.doctypeCaseRow.ifaces == (Tryd.f4.params.toList ++ Rows.doctypeCaseSpec.plain.varTypes Tryd.prog).any (Tryd.prog.ifacesRec ·)) = true := by kernel_rfl
theorem k16 : (Rows.doctypeCaseRow.mapsOut == Tryd.prog.mapsAmong Tryd.f4.resultTypes.toList) = true := by kernel_rfl
theorem k17 : (Rows.doctypeCaseRow.loops == (Tryd.f4.params.toList ++ Rows.doctypeCaseSpec.plain.varTypes Tryd.prog).any (Tryd.prog.loopsFrom ·)) = true := by kernel_rfl
theorem k18 : (Rows.doctypeCaseRow.wideKeys == (Tryd.f4.params.toList ++ Rows.doctypeCaseSpec.plain.varTypes Tryd.prog ++ Tryd.f4.resultTypes.toList).any (Tryd.prog.wideKeysFrom ·)) = true := by kernel_rfl
theorem k19 : (Rows.doctypeCaseSpec.vars.all (Tryd.prog.varReadable ·)) = true := by kernel_rfl
theorem k20 : (Tryd.f4.resultTypes.all (fun t => Tryd.prog.readableRec t && decide (t < Tryd.prog.types.size))) = true := by kernel_rfl
theorem k21 : (Rows.doctypeCaseRow.ifacesOut == Tryd.f4.resultTypes.toList.any (Tryd.prog.ifacesRec ·)) = true := by kernel_rfl
theorem k22 : (Rows.doctypeCaseRow.loopsOut == Tryd.f4.resultTypes.toList.any (Tryd.prog.loopsFrom ·)) = true := by kernel_rfl
theorem k24 : (Rows.doctypeCaseRow.shortTexts.isNone) = true := by kernel_rfl
theorem k30 : (Rows.doctypeCaseRow.pinned == Rows.doctypeCaseRow.pinnedBy) = true := by kernel_rfl
theorem k31 : (Rows.doctypeCaseRow.veiled == (Tryd.f4.params.toList ++ Rows.doctypeCaseSpec.plain.varTypes Tryd.prog ++ Tryd.f4.resultTypes.toList).any (Tryd.prog.veiledRec ·)) = true := by kernel_rfl
theorem k32 : (Rows.doctypeCaseRow.veiledFits Tryd.prog Tryd.f4.params.toList (Tryd.f4.params.toList ++ Rows.doctypeCaseSpec.plain.varTypes Tryd.prog ++ Tryd.f4.resultTypes.toList)) = true := by kernel_rfl
theorem named_is : Tryd.prog.funcNamed Rows.doctypeCaseRow.func = some 4 := by kernel_rfl
theorem inst_is : Tryd.f4.isInstance Tryd.prog Rows.doctypeCaseRow.origin Rows.doctypeCaseRow.targs := of_decide_eq_true (by kernel_rfl)
theorem over : Rows.DoctypeCaseSaid :=
  OpenClaim.holds_of_wide 4 Tryd.f4 rfl rfl rfl rfl rfl rfl rfl ⟨rfl, rfl, rfl, rfl, rfl⟩ rfl rfl rfl rfl rfl named_is Tryd.func4
    (RowKit.joined k1 k4 k5 k6 k8 k10 k11 k12 k13 k14 k15 k16 k17 k18 k19 k20 k21 k22 rfl k24 rfl rfl rfl rfl k30 k31 k32)
    inst_is (by unfold Func.isWrapper; first | (rw [if_pos (by decide +kernel)]; kernel_rfl) | (rw [if_neg (by decide +kernel)]; exact ⟨rfl, rfl⟩))
    (fun os started H enc _ => lifted os started H enc)
theorem card_wf : Rows.doctypeCaseRow.wfByText (OpenSpec.ofChange Rows.doctypeCaseSpec) = true := by kernel_rfl
theorem card_main : Tryd.prog.mainIs = some (Rows.doctypeCaseCard.stood.harness.1, Rows.doctypeCaseCard.stood.harness.2.toList) := RowKit.main_is
theorem card_goes : false = Rows.doctypeCaseRow.goesBy Tryd.prog := by kernel_rfl
theorem card_looks : true = Tryd.prog.looks [] := RowKit.looks_is.symm
theorem card_stand : ([9, 4].all fun u => !Tryd.prog.wantsStandIn u) = true := by kernel_rfl
theorem card_holds : Rows.DoctypeCaseCardSaid :=
  Claim7.holds_tied_plain_at .later [] [.data, .pinned] true Rows.doctypeCaseCard.stood.harness true over (fun _ h => by cases h) card_wf (fun _ h => by cases h) doctypeCase_row_tie rfl ⟨rfl, rfl⟩ card_main rfl
    (fun f fn hf hfn => by
      obtain rfl : f = 4 := Option.some.inj (named_is.symm.trans hf) |>.symm
      obtain rfl : fn = Tryd.f4 := (Option.some.inj (Tryd.func4.symm.trans hfn)).symm
      exact ⟨card_looks, fun j t ht => by
        rw [Tryd.params4] at ht
        have hm : t ∈ [9, 4] := by simpa using Array.mem_of_getElem? ht
        exact (show Tryd.prog.wantsStandIn t = false by simpa using List.all_eq_true.1 card_stand t hm)⟩)
    card_goes
end Go.Proofs.YtajfpegacbohdaaDoor.doctypeCase
namespace Go.Proofs.YtajfpegacbohdaaDoor
theorem doctypeCase_holds : Rows.DoctypeCaseCardSaid := doctypeCase.card_holds
#print axioms doctypeCase_holds
end Go.Proofs.YtajfpegacbohdaaDoor
