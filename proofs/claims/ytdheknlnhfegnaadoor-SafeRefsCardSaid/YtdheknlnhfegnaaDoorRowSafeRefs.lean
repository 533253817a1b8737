/-
  The statement SafeRefs of the given program: proved for every input, without a condition of ours: the printed walk of the call, and the pure statement about what it computes.
-/
import Derived.Test.YtdheknlnhfegnaaDoorRows
import Derived.Test.YtdheknlnhfegnaaDoorTie
import Derived.Test.YtdheknlnhfegnaaDoorCards
import Derived.Test.YtdheknlnhfegnaaDoorZbc
import Derived.WalkKit
import Derived.ProofKit
import Derived.OpenShut
import Derived.ShutString
import Derived.ChangeOld
import Derived.Below
import Derived.SizedLaws
import Derived.LaidMore
import Derived.Lay
import Derived.SevenTiedAt
import Derived.Stop.Joined
namespace Go.Proofs.YtdheknlnhfegnaaDoor.safeRefs
open Go.ChangeShapes Go.WideShapes Go.ChangeAt Go.RowKit
open Go.ChangeMaps (open_string shut_string)
set_option linter.unusedVariables false
theorem own : ownKnob Tryd.prog.godebug = none := by kernel_rfl
set_option maxRecDepth 100000 in
theorem lifted (os : Os) (started : os.Started) (H : Type) (enc : TypeId × Value → H) :
    ReturnsInHanded {} Tryd.checked os 5 .any (fun w args => (Rows.safeRefsSpec.pre enc Tryd.prog Tryd.f5 Rows.safeRefsRow.domain false w args ∧ laidMetH Tryd.prog Rows.safeRefsRow.laid w) ∧ sizedMet enc Tryd.prog Tryd.f5 (OpenSpec.ofChange Rows.safeRefsSpec) false w args)
      (Rows.safeRefsSpec.post enc Tryd.prog Tryd.f5 false true false false) := by
  refine RowKit.handed_and_shaped (C := Tryd.checked) (X := fun w _ => laidMetH Tryd.prog Rows.safeRefsRow.laid w) (fun _ _ _ hh h => h.of_heap hh) own started (by kernel_rfl) Tryd.func5
    (ChangeSpec.witness_shaped (enc := enc) (C := Tryd.checked) (os := os) (X := fun w _ => laidMetH Tryd.prog Rows.safeRefsRow.laid w) false (World.laidAll Tryd.prog os Rows.safeRefsRow.laid) #[.int .u16 0, .int .u32 0, .bool false] 8 (World.laidAll_os _ _ _)
      (World.shaped_of_ZipB (by kernel_rfl) (by kernel_rfl)) (by kernel_rfl) (by kernel_rfl) (by kernel_rfl)
      (by rw [MakeChecks.laidMetH_plain _ _ _ (by kernel_rfl)]; exact laidMet_laidAll _ (by kernel_rfl) (by kernel_rfl))) ?_
  intro W base args ds gs before hval0 hW hsz0 hlaid hsh
  have hsz : (DataW.weightsEach Tryd.prog (Tryd.f5.params.toList ++ Rows.safeRefsSpec.plain.varTypes Tryd.prog) (ds ++ gs)).all (· ≤ reachBytes) = true := hsz0
  have hval : ∀ (j : Nat) t v, Tryd.f5.params[j]? = some t → args[j]? = some v → Value.okWide Tryd.prog W .any base t v := hval0
  have hW' := hW
  obtain ⟨p, q, hA0, hV, rfl, hfz, hnd⟩ := hW
  have hA : DataW.TrodAll enc Tryd.prog W 0 (fun _ => true) true Tryd.f5.params.toList args.toList ds p := hA0
  rw [Tryd.params5] at hA hval hsz
  obtain ⟨v0, vs0, d0, ds0, p0, q0, hargs, rfl, rfl, h0, r0⟩ := trodAll_cons hA
  obtain ⟨v1, vs1, d1, ds1, p1, q1, rfl, rfl, rfl, h1, r1⟩ := trodAll_cons r0
  obtain ⟨v2, vs2, d2, ds2, p2, q2, rfl, rfl, rfl, h2, r2⟩ := trodAll_cons r1
  obtain ⟨rfl, rfl, rfl⟩ := trodAll_nil r2
  obtain rfl : args = #[v0, v1, v2] := by cases args; simp_all
  obtain ⟨rfl, rfl⟩ := trodVars_none hV
  obtain ⟨a0, rfl, rfl, rfl, w0⟩ := open_int Tryd.underlying28 (hval 0 28 v0 rfl rfl) h0
  obtain ⟨a1, rfl, rfl, rfl, w1⟩ := open_int Tryd.underlying29 (hval 1 29 v1 rfl rfl) h1
  obtain ⟨a2, rfl, rfl, rfl⟩ := open_bool Tryd.underlying4 (hval 2 4 v2 rfl rfl) h2
  clear hA0 hval0 hsz0 hsz
  refine (Hand.SafeRefs_law a0 a1 a2 W w0 w1 (RowKit.glob_of_laid hsh hlaid (by kernel_rfl) (List.mem_of_getElem? (i := 4) rfl)) (RowKit.globE_of_laid hlaid (by kernel_rfl) (List.mem_of_getElem? (i := 4) rfl))).mono fun e W' ⟨he, bel⟩ => ?_
  subst he
  exact ⟨_, rfl, _, _, _, [], _, [], hW', trodAll_mk1 (shut_bool Tryd.underlying4 _), (trodAll_cons_mk (shut_int Tryd.underlying28 w0) (trodAll_cons_mk (shut_int Tryd.underlying29 w1) (trodAll_cons_mk (shut_bool Tryd.underlying4 _) trodAll_mk0))), rfl, bel.frame _, fun h => by cases h⟩
theorem k1 : (Rows.safeRefsRow.wf (OpenSpec.ofChange Rows.safeRefsSpec)) = true := by kernel_rfl
theorem k4 : (Tryd.f5.params.all (Tryd.prog.readableRec ·)) = true := by kernel_rfl
theorem k5 : (namedTie Tryd.prog Rows.safeRefsRow.named Rows.safeRefsSpec.vars) = true := by kernel_rfl
theorem k6 : (Rows.safeRefsRow.stops == []) = true := by kernel_rfl
theorem k8 : (Rows.safeRefsRow.knobs == []) = true := by kernel_rfl
theorem k10 : (Rows.safeRefsRow.inPlace == Tryd.prog.inPlace 5) = true := by kernel_rfl
theorem k11 : (Rows.safeRefsRow.unfollowed == Tryd.prog.unfollowed 5) = true := by kernel_rfl
theorem k12 : (Rows.safeRefsRow.recurses == Tryd.prog.recurses 5) = true := by kernel_rfl
theorem k13 : (Rows.safeRefsRow.named == Tryd.prog.varsNamed 5) = true := by kernel_rfl
theorem k14 : (Rows.safeRefsRow.maps == (Tryd.f5.params.toList ++ Rows.safeRefsSpec.plain.varTypes Tryd.prog).any (Tryd.prog.mapsRec ·)) = true := by kernel_rfl
theorem k15 : (Rows.safeRefsRow.ifaces == (Tryd.f5.params.toList ++ Rows.safeRefsSpec.plain.varTypes Tryd.prog).any (Tryd.prog.ifacesRec ·)) = true := by kernel_rfl
theorem k16 : (Rows.safeRefsRow.mapsOut == Tryd.prog.mapsAmong Tryd.f5.resultTypes.toList) = true := by kernel_rfl
theorem k17 : (Rows.safeRefsRow.loops == (Tryd.f5.params.toList ++ Rows.safeRefsSpec.plain.varTypes Tryd.prog).any (Tryd.prog.loopsFrom ·)) = true := by kernel_rfl
theorem k18 : (Rows.safeRefsRow.wideKeys == (Tryd.f5.params.toList ++ Rows.safeRefsSpec.plain.varTypes Tryd.prog ++ Tryd.f5.resultTypes.toList).any (Tryd.prog.wideKeysFrom ·)) = true := by kernel_rfl
theorem k19 : (Rows.safeRefsSpec.vars.all (Tryd.prog.varReadable ·)) = true := by kernel_rfl
theorem k20 : (Tryd.f5.resultTypes.all (fun t => Tryd.prog.readableRec t && decide (t < Tryd.prog.types.size))) = true := by kernel_rfl
theorem k21 : (Rows.safeRefsRow.ifacesOut == Tryd.f5.resultTypes.toList.any (Tryd.prog.ifacesRec ·)) = true := by kernel_rfl
theorem k22 : (Rows.safeRefsRow.loopsOut == Tryd.f5.resultTypes.toList.any (Tryd.prog.loopsFrom ·)) = true := by kernel_rfl
theorem k24 : (Rows.safeRefsRow.shortTexts.isNone) = true := by kernel_rfl
theorem k30 : (Rows.safeRefsRow.pinned == Rows.safeRefsRow.pinnedBy) = true := by kernel_rfl
theorem k31 : (Rows.safeRefsRow.veiled == (Tryd.f5.params.toList ++ Rows.safeRefsSpec.plain.varTypes Tryd.prog ++ Tryd.f5.resultTypes.toList).any (Tryd.prog.veiledRec ·)) = true := by kernel_rfl
theorem k32 : (Rows.safeRefsRow.veiledFits Tryd.prog Tryd.f5.params.toList (Tryd.f5.params.toList ++ Rows.safeRefsSpec.plain.varTypes Tryd.prog ++ Tryd.f5.resultTypes.toList)) = true := by kernel_rfl
theorem named_is : Tryd.prog.funcNamed Rows.safeRefsRow.func = some 5 := by kernel_rfl
theorem inst_is : Tryd.f5.isInstance Tryd.prog Rows.safeRefsRow.origin Rows.safeRefsRow.targs := of_decide_eq_true (by kernel_rfl)
theorem over : Rows.SafeRefsSaid :=
  OpenClaim.holds_of_wide 5 Tryd.f5 rfl rfl rfl rfl rfl rfl rfl ⟨rfl, rfl, rfl, rfl, rfl⟩ rfl rfl rfl rfl rfl named_is Tryd.func5
    (RowKit.joined k1 k4 k5 k6 k8 k10 k11 k12 k13 k14 k15 k16 k17 k18 k19 k20 k21 k22 rfl k24 rfl rfl rfl rfl k30 k31 k32)
    inst_is (by unfold Func.isWrapper; first | (rw [if_pos (by decide +kernel)]; kernel_rfl) | (rw [if_neg (by decide +kernel)]; exact ⟨rfl, rfl⟩))
    (fun os started H enc _ => lifted os started H enc)
theorem card_wf : Rows.safeRefsRow.wfByText (OpenSpec.ofChange Rows.safeRefsSpec) = true := by kernel_rfl
theorem card_main : Tryd.prog.mainIs = some (Rows.safeRefsCard.stood.harness.1, Rows.safeRefsCard.stood.harness.2.toList) := RowKit.main_is
theorem card_goes : false = Rows.safeRefsRow.goesBy Tryd.prog := by kernel_rfl
theorem card_looks : true = Tryd.prog.looks [] := RowKit.looks_is.symm
theorem card_stand : ([28, 29, 4].all fun u => !Tryd.prog.wantsStandIn u) = true := by kernel_rfl
theorem card_holds : Rows.SafeRefsCardSaid :=
  Claim7.holds_tied_plain_at .later [] [.data, .data, .data, .sentinel, .sentinel] true Rows.safeRefsCard.stood.harness true over (fun _ h => by cases h) card_wf (fun _ h => by cases h) safeRefs_row_tie rfl ⟨rfl, rfl⟩ card_main rfl
    (fun f fn hf hfn => by
      obtain rfl : f = 5 := Option.some.inj (named_is.symm.trans hf) |>.symm
      obtain rfl : fn = Tryd.f5 := (Option.some.inj (Tryd.func5.symm.trans hfn)).symm
      exact ⟨card_looks, fun j t ht => by
        rw [Tryd.params5] at ht
        have hm : t ∈ [28, 29, 4] := by simpa using Array.mem_of_getElem? ht
        exact (show Tryd.prog.wantsStandIn t = false by simpa using List.all_eq_true.1 card_stand t hm)⟩)
    card_goes
end Go.Proofs.YtdheknlnhfegnaaDoor.safeRefs
namespace Go.Proofs.YtdheknlnhfegnaaDoor
theorem safeRefs_holds : Rows.SafeRefsCardSaid := safeRefs.card_holds
#print axioms safeRefs_holds
end Go.Proofs.YtdheknlnhfegnaaDoor
