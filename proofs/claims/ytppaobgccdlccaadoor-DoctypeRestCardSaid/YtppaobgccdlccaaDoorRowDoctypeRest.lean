/-
  The statement DoctypeRest of the given program: proved for every input, without a condition of ours: the printed walk of the call, and the pure statement about what it computes.
-/
import Derived.Test.YtppaobgccdlccaaDoorRows
import Derived.Test.YtppaobgccdlccaaDoorTie
import Derived.Test.YtppaobgccdlccaaDoorCards
import Derived.Test.YtppaobgccdlccaaDoorHaDoR
import Derived.Test.YtppaobgccdlccaaDoorRowKit
import Derived.WalkKit
import Derived.ProofKit
import Derived.OpenShut
import Derived.ShutString
import Derived.ChangeOld
import Derived.Below
import Derived.SizedLaws
import Derived.LaidMore
import Derived.Lay
import Derived.SevenTiedAt
import Derived.Stop.Joined
namespace Go.Proofs.YtppaobgccdlccaaDoor.doctypeRest
open Go.ChangeShapes Go.WideShapes Go.ChangeAt Go.RowKit
open Go.ChangeMaps (open_string shut_string)
set_option linter.unusedVariables false
theorem own : ownKnob Tryd.prog.godebug = none := by kernel_rfl
set_option maxRecDepth 100000 in
theorem lifted (os : Os) (started : os.Started) (H : Type) (enc : TypeId × Value → H) :
    ReturnsInHanded {} Tryd.checked os 23 .any (fun w args => (Rows.doctypeRestSpec.pre enc Tryd.prog Tryd.f23 Rows.doctypeRestRow.domain false w args ∧ laidMetH Tryd.prog Rows.doctypeRestRow.laid w) ∧ sizedMet enc Tryd.prog Tryd.f23 (OpenSpec.ofChange Rows.doctypeRestSpec) false w args)
      (Rows.doctypeRestSpec.post enc Tryd.prog Tryd.f23 false true false false) := by
  refine RowKit.handed_and_shaped (C := Tryd.checked) (X := fun w _ => laidMetH Tryd.prog Rows.doctypeRestRow.laid w) (fun _ _ _ hh h => h.of_heap hh) own started (by kernel_rfl) Tryd.func23
    (ChangeSpec.witness_shaped (enc := enc) (C := Tryd.checked) (os := os) (X := fun w _ => laidMetH Tryd.prog Rows.doctypeRestRow.laid w) false (World.laidAll Tryd.prog os Rows.doctypeRestRow.laid) #[.string ByteArray.empty, .string ByteArray.empty] 8 (World.laidAll_os _ _ _)
      (World.shaped_of_ZipB (by kernel_rfl) (by kernel_rfl)) (by kernel_rfl) (by kernel_rfl) (by kernel_rfl)
      (by rw [MakeChecks.laidMetH_plain _ _ _ (by kernel_rfl)]; exact laidMet_laidAll _ (by kernel_rfl) (by kernel_rfl))) ?_
  intro W base args ds gs before hval0 hW hsz0 _ hsh
  have hsz : (DataW.weightsEach Tryd.prog (Tryd.f23.params.toList ++ Rows.doctypeRestSpec.plain.varTypes Tryd.prog) (ds ++ gs)).all (· ≤ reachBytes) = true := hsz0
  have hval : ∀ (j : Nat) t v, Tryd.f23.params[j]? = some t → args[j]? = some v → Value.okWide Tryd.prog W .any base t v := hval0
  have hW' := hW
  obtain ⟨p, q, hA0, hV, rfl, hfz, hnd⟩ := hW
  have hA : DataW.TrodAll enc Tryd.prog W 0 (fun _ => true) true Tryd.f23.params.toList args.toList ds p := hA0
  rw [Tryd.params23] at hA hval hsz
  obtain ⟨v0, vs0, d0, ds0, p0, q0, hargs, rfl, rfl, h0, r0⟩ := trodAll_cons hA
  obtain ⟨v1, vs1, d1, ds1, p1, q1, rfl, rfl, rfl, h1, r1⟩ := trodAll_cons r0
  obtain ⟨rfl, rfl, rfl⟩ := trodAll_nil r1
  obtain rfl : args = #[v0, v1] := by cases args; simp_all
  obtain ⟨rfl, rfl⟩ := trodVars_none hV
  obtain ⟨a0, rfl, rfl, rfl, y0⟩ := open_string Tryd.underlying9 (hval 0 9 v0 rfl rfl) h0
  have w0 : a0.size ≤ 140737488351232 := by
    have z := sized_string hsz (j := 0) (t := 9) rfl rfl
    rw [Array.length_toList] at z
    exact z
  obtain ⟨a1, rfl, rfl, rfl, y1⟩ := open_string Tryd.underlying9 (hval 1 9 v1 rfl rfl) h1
  have w1 : a1.size ≤ 140737488351232 := by
    have z := sized_string hsz (j := 1) (t := 9) rfl rfl
    rw [Array.length_toList] at z
    exact z
  clear hA0 hval0 hsz0 hsz
  refine (Hand.DoctypeRest_law a0 a1 W w0 w1 (RowKit.glob_of_shape hsh)).mono fun e W' ⟨he, bel⟩ => ?_
  subst he
  exact ⟨_, rfl, _, _, _, [], _, [], hW', trodAll_mk1 (shut_bool Tryd.underlying4 _), (trodAll_cons_mk (shut_string Tryd.underlying9 y0) (trodAll_cons_mk (shut_string Tryd.underlying9 y1) trodAll_mk0)), rfl, bel.frame _, fun h => by cases h⟩
theorem k1 : (Rows.doctypeRestRow.wf (OpenSpec.ofChange Rows.doctypeRestSpec)) = true := by kernel_rfl
theorem k4 : (Tryd.f23.params.all (Tryd.prog.readableRec ·)) = true := by kernel_rfl
theorem k5 : (namedTie Tryd.prog Rows.doctypeRestRow.named Rows.doctypeRestSpec.vars) = true := by kernel_rfl
theorem k6 : (Rows.doctypeRestRow.stops == []) = true := by kernel_rfl
theorem k8 : (Rows.doctypeRestRow.knobs == []) = true := by kernel_rfl
theorem k10 : (Rows.doctypeRestRow.inPlace == Tryd.prog.inPlace 23) = true := by kernel_rfl
theorem k11 : (Rows.doctypeRestRow.unfollowed == Tryd.prog.unfollowed 23) = true := by kernel_rfl
theorem k12 : (Rows.doctypeRestRow.recurses == Tryd.prog.recurses 23) = true := by kernel_rfl
theorem k13 : (Rows.doctypeRestRow.named == Tryd.prog.varsNamed 23) = true := by kernel_rfl
theorem k14 : (Rows.doctypeRestRow.maps == (Tryd.f23.params.toList ++ Rows.doctypeRestSpec.plain.varTypes Tryd.prog).any (Tryd.prog.mapsRec ·)) = true := by kernel_rfl
theorem k15 : (Rows.doctypeRestRow.ifaces == (Tryd.f23.params.toList ++ Rows.doctypeRestSpec.plain.varTypes Tryd.prog).any (Tryd.prog.ifacesRec ·)) = true := by kernel_rfl
theorem k16 : (Rows.doctypeRestRow.mapsOut == Tryd.prog.mapsAmong Tryd.f23.resultTypes.toList) = true := by kernel_rfl
theorem k17 : (Rows.doctypeRestRow.loops == (Tryd.f23.params.toList ++ Rows.doctypeRestSpec.plain.varTypes Tryd.prog).any (Tryd.prog.loopsFrom ·)) = true := by kernel_rfl
theorem k18 : (Rows.doctypeRestRow.wideKeys == (Tryd.f23.params.toList ++ Rows.doctypeRestSpec.plain.varTypes Tryd.prog ++ Tryd.f23.resultTypes.toList).any (Tryd.prog.wideKeysFrom ·)) = true := by kernel_rfl
theorem k19 : (Rows.doctypeRestSpec.vars.all (Tryd.prog.varReadable ·)) = true := by kernel_rfl
theorem k20 : (Tryd.f23.resultTypes.all (fun t => Tryd.prog.readableRec t && decide (t < Tryd.prog.types.size))) = true := by kernel_rfl
theorem k21 : (Rows.doctypeRestRow.ifacesOut == Tryd.f23.resultTypes.toList.any (Tryd.prog.ifacesRec ·)) = true := by kernel_rfl
theorem k22 : (Rows.doctypeRestRow.loopsOut == Tryd.f23.resultTypes.toList.any (Tryd.prog.loopsFrom ·)) = true := by kernel_rfl
theorem k24 : (Rows.doctypeRestRow.shortTexts.isNone) = true := by kernel_rfl
theorem k30 : (Rows.doctypeRestRow.pinned == Rows.doctypeRestRow.pinnedBy) = true := by kernel_rfl
theorem k31 : (Rows.doctypeRestRow.veiled == (Tryd.f23.params.toList ++ Rows.doctypeRestSpec.plain.varTypes Tryd.prog ++ Tryd.f23.resultTypes.toList).any (Tryd.prog.veiledRec ·)) = true := by kernel_rfl
theorem k32 : (Rows.doctypeRestRow.veiledFits Tryd.prog Tryd.f23.params.toList (Tryd.f23.params.toList ++ Rows.doctypeRestSpec.plain.varTypes Tryd.prog ++ Tryd.f23.resultTypes.toList)) = true := by kernel_rfl
theorem named_is : Tryd.prog.funcNamed Rows.doctypeRestRow.func = some 23 := by kernel_rfl
theorem inst_is : Tryd.f23.isInstance Tryd.prog Rows.doctypeRestRow.origin Rows.doctypeRestRow.targs := of_decide_eq_true (by kernel_rfl)
theorem over : Rows.DoctypeRestSaid :=
  OpenClaim.holds_of_wide 23 Tryd.f23 rfl rfl rfl rfl rfl rfl rfl ⟨rfl, rfl, rfl, rfl, rfl⟩ rfl rfl rfl rfl rfl named_is Tryd.func23
    (RowKit.joined k1 k4 k5 k6 k8 k10 k11 k12 k13 k14 k15 k16 k17 k18 k19 k20 k21 k22 rfl k24 rfl rfl rfl rfl k30 k31 k32)
    inst_is (by unfold Func.isWrapper; first | (rw [if_pos (by decide +kernel)]; kernel_rfl) | (rw [if_neg (by decide +kernel)]; exact ⟨rfl, rfl⟩))
    (fun os started H enc _ => lifted os started H enc)
theorem card_wf : Rows.doctypeRestRow.wfByText (OpenSpec.ofChange Rows.doctypeRestSpec) = true := by kernel_rfl
theorem card_main : Tryd.prog.mainIs = some (Rows.doctypeRestCard.stood.harness.1, Rows.doctypeRestCard.stood.harness.2.toList) := RowKit.main_is
theorem card_goes : false = Rows.doctypeRestRow.goesBy Tryd.prog := by kernel_rfl
theorem card_looks : true = Tryd.prog.looks [] := RowKit.looks_is.symm
theorem card_stand : ([9, 9].all fun u => !Tryd.prog.wantsStandIn u) = true := by kernel_rfl
theorem card_holds : Rows.DoctypeRestCardSaid :=
  Claim7.holds_tied_plain_at .later [] [.data, .pinned] true Rows.doctypeRestCard.stood.harness true over (fun _ h => by cases h) card_wf (fun _ h => by cases h) doctypeRest_row_tie rfl ⟨rfl, rfl⟩ card_main rfl
    (fun f fn hf hfn => by
      obtain rfl : f = 23 := Option.some.inj (named_is.symm.trans hf) |>.symm
      obtain rfl : fn = Tryd.f23 := (Option.some.inj (Tryd.func23.symm.trans hfn)).symm
      exact ⟨card_looks, fun j t ht => by
        rw [Tryd.params23] at ht
        have hm : t ∈ [9, 9] := by simpa using Array.mem_of_getElem? ht
        exact (show Tryd.prog.wantsStandIn t = false by simpa using List.all_eq_true.1 card_stand t hm)⟩)
    card_goes
end Go.Proofs.YtppaobgccdlccaaDoor.doctypeRest
namespace Go.Proofs.YtppaobgccdlccaaDoor
theorem doctypeRest_holds : Rows.DoctypeRestCardSaid := doctypeRest.card_holds
#print axioms doctypeRest_holds
end Go.Proofs.YtppaobgccdlccaaDoor
