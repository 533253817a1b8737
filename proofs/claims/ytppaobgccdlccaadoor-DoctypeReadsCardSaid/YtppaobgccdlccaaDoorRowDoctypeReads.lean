/-
  The statement DoctypeReads of the given program: proved for every input, without a condition of ours: the printed walk of the call, and the pure statement about what it computes.
-/
import Derived.Test.YtppaobgccdlccaaDoorRows
import Derived.Test.YtppaobgccdlccaaDoorTie
import Derived.Test.YtppaobgccdlccaaDoorCards
import Derived.Test.YtppaobgccdlccaaDoorHaDoD
import Derived.Test.YtppaobgccdlccaaDoorRowKit
import Derived.WalkKit
import Derived.ProofKit
import Derived.OpenShut
import Derived.ShutString
import Derived.ChangeOld
import Derived.Below
import Derived.SizedLaws
import Derived.LaidMore
import Derived.Lay
import Derived.SevenTiedAt
import Derived.Stop.Joined
namespace Go.Proofs.YtppaobgccdlccaaDoor.doctypeReads
open Go.ChangeShapes Go.WideShapes Go.ChangeAt Go.RowKit
open Go.ChangeMaps (open_string shut_string)
set_option linter.unusedVariables false
theorem own : ownKnob Tryd.prog.godebug = none := by kernel_rfl
set_option maxRecDepth 100000 in
theorem lifted (os : Os) (started : os.Started) (H : Type) (enc : TypeId × Value → H) :
    ReturnsInHanded {} Tryd.checked os 19 .any (fun w args => (Rows.doctypeReadsSpec.pre enc Tryd.prog Tryd.f19 Rows.doctypeReadsRow.domain false w args ∧ laidMetH Tryd.prog Rows.doctypeReadsRow.laid w) ∧ sizedMet enc Tryd.prog Tryd.f19 (OpenSpec.ofChange Rows.doctypeReadsSpec) false w args)
      (Rows.doctypeReadsSpec.post enc Tryd.prog Tryd.f19 false true false false) := by
  refine RowKit.handed_and_shaped (C := Tryd.checked) (X := fun w _ => laidMetH Tryd.prog Rows.doctypeReadsRow.laid w) (fun _ _ _ hh h => h.of_heap hh) own started (by kernel_rfl) Tryd.func19
    (ChangeSpec.witness_shaped (enc := enc) (C := Tryd.checked) (os := os) (X := fun w _ => laidMetH Tryd.prog Rows.doctypeReadsRow.laid w) false (World.laidAll Tryd.prog os Rows.doctypeReadsRow.laid) #[.string ByteArray.empty, .int .i64 0] 8 (World.laidAll_os _ _ _)
      (World.shaped_of_ZipB (by kernel_rfl) (by kernel_rfl)) (by kernel_rfl) (by kernel_rfl) (by kernel_rfl)
      (by rw [MakeChecks.laidMetH_plain _ _ _ (by kernel_rfl)]; exact laidMet_laidAll _ (by kernel_rfl) (by kernel_rfl))) ?_
  intro W base args ds gs before hval0 hW hsz0 _ hsh
  have hsz : (DataW.weightsEach Tryd.prog (Tryd.f19.params.toList ++ Rows.doctypeReadsSpec.plain.varTypes Tryd.prog) (ds ++ gs)).all (· ≤ reachBytes) = true := hsz0
  have hval : ∀ (j : Nat) t v, Tryd.f19.params[j]? = some t → args[j]? = some v → Value.okWide Tryd.prog W .any base t v := hval0
  have hW' := hW
  obtain ⟨p, q, hA0, hV, rfl, hfz, hnd⟩ := hW
  have hA : DataW.TrodAll enc Tryd.prog W 0 (fun _ => true) true Tryd.f19.params.toList args.toList ds p := hA0
  rw [Tryd.params19] at hA hval hsz
  obtain ⟨v0, vs0, d0, ds0, p0, q0, hargs, rfl, rfl, h0, r0⟩ := trodAll_cons hA
  obtain ⟨v1, vs1, d1, ds1, p1, q1, rfl, rfl, rfl, h1, r1⟩ := trodAll_cons r0
  obtain ⟨rfl, rfl, rfl⟩ := trodAll_nil r1
  obtain rfl : args = #[v0, v1] := by cases args; simp_all
  obtain ⟨rfl, rfl⟩ := trodVars_none hV
  obtain ⟨a0, rfl, rfl, rfl, y0⟩ := open_string Tryd.underlying9 (hval 0 9 v0 rfl rfl) h0
  have w0 : a0.size ≤ 140737488351232 := by
    have z := sized_string hsz (j := 0) (t := 9) rfl rfl
    rw [Array.length_toList] at z
    exact z
  obtain ⟨a1, rfl, rfl, rfl, w1⟩ := open_int Tryd.underlying3 (hval 1 3 v1 rfl rfl) h1
  clear hA0 hval0 hsz0 hsz
  refine (Hand.DoctypeReads_law a0 a1 W w0 w1 (RowKit.glob_of_shape hsh)).mono fun e W' ⟨he, bel⟩ => ?_
  subst he
  exact ⟨_, rfl, _, _, _, [], _, [], hW', trodAll_mk1 (shut_bool Tryd.underlying4 _), (trodAll_cons_mk (shut_string Tryd.underlying9 y0) (trodAll_cons_mk (shut_int Tryd.underlying3 w1) trodAll_mk0)), rfl, bel.frame _, fun h => by cases h⟩
theorem k1 : (Rows.doctypeReadsRow.wf (OpenSpec.ofChange Rows.doctypeReadsSpec)) = true := by kernel_rfl
theorem k4 : (Tryd.f19.params.all (Tryd.prog.readableRec ·)) = true := by kernel_rfl
theorem k5 : (namedTie Tryd.prog Rows.doctypeReadsRow.named Rows.doctypeReadsSpec.vars) = true := by kernel_rfl
theorem k6 : (Rows.doctypeReadsRow.stops == []) = true := by kernel_rfl
theorem k8 : (Rows.doctypeReadsRow.knobs == []) = true := by kernel_rfl
theorem k10 : (Rows.doctypeReadsRow.inPlace == Tryd.prog.inPlace 19) = true := by kernel_rfl
theorem k11 : (Rows.doctypeReadsRow.unfollowed == Tryd.prog.unfollowed 19) = true := by kernel_rfl
theorem k12 : (Rows.doctypeReadsRow.recurses == Tryd.prog.recurses 19) = true := by kernel_rfl
theorem k13 : (Rows.doctypeReadsRow.named == Tryd.prog.varsNamed 19) = true := by kernel_rfl
theorem k14 : (Rows.doctypeReadsRow.maps == (Tryd.f19.params.toList ++ Rows.doctypeReadsSpec.plain.varTypes Tryd.prog).any (Tryd.prog.mapsRec ·)) = true := by kernel_rfl
theorem k15 : (Rows.doctypeReadsRow.ifaces == (Tryd.f19.params.toList ++ Rows.doctypeReadsSpec.plain.varTypes Tryd.prog).any (Tryd.prog.ifacesRec ·)) = true := by kernel_rfl
theorem k16 : (Rows.doctypeReadsRow.mapsOut == Tryd.prog.mapsAmong Tryd.f19.resultTypes.toList) = true := by kernel_rfl
theorem k17 : (Rows.doctypeReadsRow.loops == (Tryd.f19.params.toList ++ Rows.doctypeReadsSpec.plain.varTypes Tryd.prog).any (Tryd.prog.loopsFrom ·)) = true := by kernel_rfl
theorem k18 : (Rows.doctypeReadsRow.wideKeys == (Tryd.f19.params.toList ++ Rows.doctypeReadsSpec.plain.varTypes Tryd.prog ++ Tryd.f19.resultTypes.toList).any (Tryd.prog.wideKeysFrom ·)) = true := by kernel_rfl
theorem k19 : (Rows.doctypeReadsSpec.vars.all (Tryd.prog.varReadable ·)) = true := by kernel_rfl
theorem k20 : (Tryd.f19.resultTypes.all (fun t => Tryd.prog.readableRec t && decide (t < Tryd.prog.types.size))) = true := by kernel_rfl
theorem k21 : (Rows.doctypeReadsRow.ifacesOut == Tryd.f19.resultTypes.toList.any (Tryd.prog.ifacesRec ·)) = true := by kernel_rfl
theorem k22 : (Rows.doctypeReadsRow.loopsOut == Tryd.f19.resultTypes.toList.any (Tryd.prog.loopsFrom ·)) = true := by kernel_rfl
theorem k24 : (Rows.doctypeReadsRow.shortTexts.isNone) = true := by kernel_rfl
theorem k30 : (Rows.doctypeReadsRow.pinned == Rows.doctypeReadsRow.pinnedBy) = true := by kernel_rfl
theorem k31 : (Rows.doctypeReadsRow.veiled == (Tryd.f19.params.toList ++ Rows.doctypeReadsSpec.plain.varTypes Tryd.prog ++ Tryd.f19.resultTypes.toList).any (Tryd.prog.veiledRec ·)) = true := by kernel_rfl
theorem k32 : (Rows.doctypeReadsRow.veiledFits Tryd.prog Tryd.f19.params.toList (Tryd.f19.params.toList ++ Rows.doctypeReadsSpec.plain.varTypes Tryd.prog ++ Tryd.f19.resultTypes.toList)) = true := by kernel_rfl
theorem named_is : Tryd.prog.funcNamed Rows.doctypeReadsRow.func = some 19 := by kernel_rfl
theorem inst_is : Tryd.f19.isInstance Tryd.prog Rows.doctypeReadsRow.origin Rows.doctypeReadsRow.targs := of_decide_eq_true (by kernel_rfl)
theorem over : Rows.DoctypeReadsSaid :=
  OpenClaim.holds_of_wide 19 Tryd.f19 rfl rfl rfl rfl rfl rfl rfl ⟨rfl, rfl, rfl, rfl, rfl⟩ rfl rfl rfl rfl rfl named_is Tryd.func19
    (RowKit.joined k1 k4 k5 k6 k8 k10 k11 k12 k13 k14 k15 k16 k17 k18 k19 k20 k21 k22 rfl k24 rfl rfl rfl rfl k30 k31 k32)
    inst_is (by unfold Func.isWrapper; first | (rw [if_pos (by decide +kernel)]; kernel_rfl) | (rw [if_neg (by decide +kernel)]; exact ⟨rfl, rfl⟩))
    (fun os started H enc _ => lifted os started H enc)
theorem card_wf : Rows.doctypeReadsRow.wfByText (OpenSpec.ofChange Rows.doctypeReadsSpec) = true := by kernel_rfl
theorem card_main : Tryd.prog.mainIs = some (Rows.doctypeReadsCard.stood.harness.1, Rows.doctypeReadsCard.stood.harness.2.toList) := RowKit.main_is
theorem card_goes : false = Rows.doctypeReadsRow.goesBy Tryd.prog := by kernel_rfl
theorem card_looks : true = Tryd.prog.looks [] := RowKit.looks_is.symm
theorem card_stand : ([9, 3].all fun u => !Tryd.prog.wantsStandIn u) = true := by kernel_rfl
theorem card_holds : Rows.DoctypeReadsCardSaid :=
  Claim7.holds_tied_plain_at .later [] [.data, .pinned] true Rows.doctypeReadsCard.stood.harness true over (fun _ h => by cases h) card_wf (fun _ h => by cases h) doctypeReads_row_tie rfl ⟨rfl, rfl⟩ card_main rfl
    (fun f fn hf hfn => by
      obtain rfl : f = 19 := Option.some.inj (named_is.symm.trans hf) |>.symm
      obtain rfl : fn = Tryd.f19 := (Option.some.inj (Tryd.func19.symm.trans hfn)).symm
      exact ⟨card_looks, fun j t ht => by
        rw [Tryd.params19] at ht
        have hm : t ∈ [9, 3] := by simpa using Array.mem_of_getElem? ht
        exact (show Tryd.prog.wantsStandIn t = false by simpa using List.all_eq_true.1 card_stand t hm)⟩)
    card_goes
end Go.Proofs.YtppaobgccdlccaaDoor.doctypeReads
namespace Go.Proofs.YtppaobgccdlccaaDoor
theorem doctypeReads_holds : Rows.DoctypeReadsCardSaid := doctypeReads.card_holds
#print axioms doctypeReads_holds
end Go.Proofs.YtppaobgccdlccaaDoor
