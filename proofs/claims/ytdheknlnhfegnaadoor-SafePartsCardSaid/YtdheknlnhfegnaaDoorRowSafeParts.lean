/-
  The statement SafeParts of the given program: proved for every input, without a condition of ours: the printed walk of the call, and the pure statement about what it computes.
-/
import Derived.Test.YtdheknlnhfegnaaDoorRows
import Derived.Test.YtdheknlnhfegnaaDoorTie
import Derived.Test.YtdheknlnhfegnaaDoorCards
import Derived.Test.YtdheknlnhfegnaaDoorZbd
import Derived.Test.YtdheknlnhfegnaaDoorZbc
import Derived.WalkKit
import Derived.ProofKit
import Derived.OpenShut
import Derived.ShutString
import Derived.ChangeOld
import Derived.Below
import Derived.SizedLaws
import Derived.LaidMore
import Derived.Lay
import Derived.SevenTiedAt
import Derived.Stop.Joined
namespace Go.Proofs.YtdheknlnhfegnaaDoor.safeParts
open Go.ChangeShapes Go.WideShapes Go.ChangeAt Go.RowKit
open Go.ChangeMaps (open_string shut_string)
set_option linter.unusedVariables false
theorem own : ownKnob Tryd.prog.godebug = none := by kernel_rfl
set_option maxRecDepth 100000 in
theorem lifted (os : Os) (started : os.Started) (H : Type) (enc : TypeId × Value → H) :
    ReturnsInHanded {} Tryd.checked os 4 .any (fun w args => (Rows.safePartsSpec.pre enc Tryd.prog Tryd.f4 Rows.safePartsRow.domain false w args ∧ laidMetH Tryd.prog Rows.safePartsRow.laid w) ∧ sizedMet enc Tryd.prog Tryd.f4 (OpenSpec.ofChange Rows.safePartsSpec) false w args)
      (Rows.safePartsSpec.post enc Tryd.prog Tryd.f4 false true false false) := by
  refine RowKit.handed_and_shaped (C := Tryd.checked) (X := fun w _ => laidMetH Tryd.prog Rows.safePartsRow.laid w) (fun _ _ _ hh h => h.of_heap hh) own started (by kernel_rfl) Tryd.func4
    (ChangeSpec.witness_shaped (enc := enc) (C := Tryd.checked) (os := os) (X := fun w _ => laidMetH Tryd.prog Rows.safePartsRow.laid w) false (World.laidAll Tryd.prog os Rows.safePartsRow.laid) #[.int .i64 0, .string ByteArray.empty, .string ByteArray.empty] 8 (World.laidAll_os _ _ _)
      (World.shaped_of_ZipB (by kernel_rfl) (by kernel_rfl)) (by kernel_rfl) (by kernel_rfl) (by kernel_rfl)
      (by rw [MakeChecks.laidMetH_plain _ _ _ (by kernel_rfl)]; exact laidMet_laidAll _ (by kernel_rfl) (by kernel_rfl))) ?_
  intro W base args ds gs before hval0 hW hsz0 hlaid hsh
  have hsz : (DataW.weightsEach Tryd.prog (Tryd.f4.params.toList ++ Rows.safePartsSpec.plain.varTypes Tryd.prog) (ds ++ gs)).all (· ≤ reachBytes) = true := hsz0
  have hval : ∀ (j : Nat) t v, Tryd.f4.params[j]? = some t → args[j]? = some v → Value.okWide Tryd.prog W .any base t v := hval0
  have hW' := hW
  obtain ⟨p, q, hA0, hV, rfl, hfz, hnd⟩ := hW
  have hA : DataW.TrodAll enc Tryd.prog W 0 (fun _ => true) true Tryd.f4.params.toList args.toList ds p := hA0
  rw [Tryd.params4] at hA hval hsz
  obtain ⟨v0, vs0, d0, ds0, p0, q0, hargs, rfl, rfl, h0, r0⟩ := trodAll_cons hA
  obtain ⟨v1, vs1, d1, ds1, p1, q1, rfl, rfl, rfl, h1, r1⟩ := trodAll_cons r0
  obtain ⟨v2, vs2, d2, ds2, p2, q2, rfl, rfl, rfl, h2, r2⟩ := trodAll_cons r1
  obtain ⟨rfl, rfl, rfl⟩ := trodAll_nil r2
  obtain rfl : args = #[v0, v1, v2] := by cases args; simp_all
  obtain ⟨rfl, rfl⟩ := trodVars_none hV
  obtain ⟨a0, rfl, rfl, rfl, w0⟩ := open_int Tryd.underlying3 (hval 0 3 v0 rfl rfl) h0
  obtain ⟨a1, rfl, rfl, rfl, y1⟩ := open_string Tryd.underlying9 (hval 1 9 v1 rfl rfl) h1
  have w1 : a1.size ≤ 140737488351232 := by
    have z := sized_string hsz (j := 1) (t := 9) rfl rfl
    rw [Array.length_toList] at z
    exact z
  obtain ⟨a2, rfl, rfl, rfl, y2⟩ := open_string Tryd.underlying9 (hval 2 9 v2 rfl rfl) h2
  have w2 : a2.size ≤ 140737488351232 := by
    have z := sized_string hsz (j := 2) (t := 9) rfl rfl
    rw [Array.length_toList] at z
    exact z
  clear hA0 hval0 hsz0 hsz
  refine (Hand.SafeParts_law a0 a1 a2 W w0 w1 w2 (RowKit.glob_of_shape hsh) (RowKit.globE_of_laid hlaid (by kernel_rfl) (List.mem_of_getElem? (i := 4) rfl))).mono fun e W' ⟨he, bel⟩ => ?_
  subst he
  exact ⟨_, rfl, _, _, _, [], _, [], hW', trodAll_mk1 (shut_bool Tryd.underlying4 _), (trodAll_cons_mk (shut_int Tryd.underlying3 w0) (trodAll_cons_mk (shut_string Tryd.underlying9 y1) (trodAll_cons_mk (shut_string Tryd.underlying9 y2) trodAll_mk0))), rfl, bel.frame _, fun h => by cases h⟩
theorem k1 : (Rows.safePartsRow.wf (OpenSpec.ofChange Rows.safePartsSpec)) = true := by kernel_rfl
theorem k4 : (Tryd.f4.params.all (Tryd.prog.readableRec ·)) = true := by kernel_rfl
theorem k5 : (namedTie Tryd.prog Rows.safePartsRow.named Rows.safePartsSpec.vars) = true := by kernel_rfl
theorem k6 : (Rows.safePartsRow.stops == []) = true := by kernel_rfl
theorem k8 : (Rows.safePartsRow.knobs == []) = true := by kernel_rfl
theorem k10 : (Rows.safePartsRow.inPlace == Tryd.prog.inPlace 4) = true := by kernel_rfl
theorem k11 : (Rows.safePartsRow.unfollowed == Tryd.prog.unfollowed 4) = true := by kernel_rfl
theorem k12 : (Rows.safePartsRow.recurses == Tryd.prog.recurses 4) = true := by kernel_rfl
theorem k13 : (Rows.safePartsRow.named == Tryd.prog.varsNamed 4) = true := by kernel_rfl
theorem k14 : (Rows.safePartsRow.maps == (Tryd.f4.params.toList ++ Rows.safePartsSpec.plain.varTypes Tryd.prog).any (Tryd.prog.mapsRec ·)) = true := by kernel_rfl
theorem k15 : (Rows.safePartsRow.ifaces == (Tryd.f4.params.toList ++ Rows.safePartsSpec.plain.varTypes Tryd.prog).any (Tryd.prog.ifacesRec ·)) = true := by kernel_rfl
theorem k16 : (Rows.safePartsRow.mapsOut == Tryd.prog.mapsAmong Tryd.f4.resultTypes.toList) = true := by kernel_rfl
theorem k17 : (Rows.safePartsRow.loops == (Tryd.f4.params.toList ++ Rows.safePartsSpec.plain.varTypes Tryd.prog).any (Tryd.prog.loopsFrom ·)) = true := by kernel_rfl
theorem k18 : (Rows.safePartsRow.wideKeys == (Tryd.f4.params.toList ++ Rows.safePartsSpec.plain.varTypes Tryd.prog ++ Tryd.f4.resultTypes.toList).any (Tryd.prog.wideKeysFrom ·)) = true := by kernel_rfl
theorem k19 : (Rows.safePartsSpec.vars.all (Tryd.prog.varReadable ·)) = true := by kernel_rfl
theorem k20 : (Tryd.f4.resultTypes.all (fun t => Tryd.prog.readableRec t && decide (t < Tryd.prog.types.size))) = true := by kernel_rfl
theorem k21 : (Rows.safePartsRow.ifacesOut == Tryd.f4.resultTypes.toList.any (Tryd.prog.ifacesRec ·)) = true := by kernel_rfl
theorem k22 : (Rows.safePartsRow.loopsOut == Tryd.f4.resultTypes.toList.any (Tryd.prog.loopsFrom ·)) = true := by kernel_rfl
theorem k24 : (Rows.safePartsRow.shortTexts.isNone) = true := by kernel_rfl
theorem k30 : (Rows.safePartsRow.pinned == Rows.safePartsRow.pinnedBy) = true := by kernel_rfl
theorem k31 : (Rows.safePartsRow.veiled == (Tryd.f4.params.toList ++ Rows.safePartsSpec.plain.varTypes Tryd.prog ++ Tryd.f4.resultTypes.toList).any (Tryd.prog.veiledRec ·)) = true := by kernel_rfl
theorem k32 : (Rows.safePartsRow.veiledFits Tryd.prog Tryd.f4.params.toList (Tryd.f4.params.toList ++ Rows.safePartsSpec.plain.varTypes Tryd.prog ++ Tryd.f4.resultTypes.toList)) = true := by kernel_rfl
theorem named_is : Tryd.prog.funcNamed Rows.safePartsRow.func = some 4 := by kernel_rfl
theorem inst_is : Tryd.f4.isInstance Tryd.prog Rows.safePartsRow.origin Rows.safePartsRow.targs := of_decide_eq_true (by kernel_rfl)
theorem over : Rows.SafePartsSaid :=
  OpenClaim.holds_of_wide 4 Tryd.f4 rfl rfl rfl rfl rfl rfl rfl ⟨rfl, rfl, rfl, rfl, rfl⟩ rfl rfl rfl rfl rfl named_is Tryd.func4
    (RowKit.joined k1 k4 k5 k6 k8 k10 k11 k12 k13 k14 k15 k16 k17 k18 k19 k20 k21 k22 rfl k24 rfl rfl rfl rfl k30 k31 k32)
    inst_is (by unfold Func.isWrapper; first | (rw [if_pos (by decide +kernel)]; kernel_rfl) | (rw [if_neg (by decide +kernel)]; exact ⟨rfl, rfl⟩))
    (fun os started H enc _ => lifted os started H enc)
theorem card_wf : Rows.safePartsRow.wfByText (OpenSpec.ofChange Rows.safePartsSpec) = true := by kernel_rfl
theorem card_main : Tryd.prog.mainIs = some (Rows.safePartsCard.stood.harness.1, Rows.safePartsCard.stood.harness.2.toList) := RowKit.main_is
theorem card_goes : false = Rows.safePartsRow.goesBy Tryd.prog := by kernel_rfl
theorem card_looks : true = Tryd.prog.looks [] := RowKit.looks_is.symm
theorem card_stand : ([3, 9, 9].all fun u => !Tryd.prog.wantsStandIn u) = true := by kernel_rfl
theorem card_holds : Rows.SafePartsCardSaid :=
  Claim7.holds_tied_plain_at .later [] [.data, .data, .data, .sentinel, .sentinel] true Rows.safePartsCard.stood.harness true over (fun _ h => by cases h) card_wf (fun _ h => by cases h) safeParts_row_tie rfl ⟨rfl, rfl⟩ card_main rfl
    (fun f fn hf hfn => by
      obtain rfl : f = 4 := Option.some.inj (named_is.symm.trans hf) |>.symm
      obtain rfl : fn = Tryd.f4 := (Option.some.inj (Tryd.func4.symm.trans hfn)).symm
      exact ⟨card_looks, fun j t ht => by
        rw [Tryd.params4] at ht
        have hm : t ∈ [3, 9, 9] := by simpa using Array.mem_of_getElem? ht
        exact (show Tryd.prog.wantsStandIn t = false by simpa using List.all_eq_true.1 card_stand t hm)⟩)
    card_goes
end Go.Proofs.YtdheknlnhfegnaaDoor.safeParts
namespace Go.Proofs.YtdheknlnhfegnaaDoor
theorem safeParts_holds : Rows.SafePartsCardSaid := safeParts.card_holds
#print axioms safeParts_holds
end Go.Proofs.YtdheknlnhfegnaaDoor
