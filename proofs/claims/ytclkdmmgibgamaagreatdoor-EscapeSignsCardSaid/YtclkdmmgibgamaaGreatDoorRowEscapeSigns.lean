/-
  The statement EscapeSigns of the given program: proved for every input, without a condition of ours: the printed walk of the call, and the pure statement about what it computes.
-/
import Derived.Test.YtclkdmmgibgamaaGreatDoorRows
import Derived.Test.YtclkdmmgibgamaaGreatDoorTie
import Derived.Test.YtclkdmmgibgamaaGreatDoorCards
import Derived.Test.YtclkdmmgibgamaaGreatDoorZvEscapeSignsa
import Derived.WalkKit
import Derived.ProofKit
import Derived.OpenShut
import Derived.ShutString
import Derived.ChangeOld
import Derived.Below
import Derived.SizedLaws
import Derived.LaidMore
import Derived.Lay
import Derived.SevenTiedAt
import Derived.Stop.Joined
namespace Go.Proofs.YtclkdmmgibgamaaGreatDoor.escapeSigns
open Go.ChangeShapes Go.WideShapes Go.ChangeAt Go.RowKit
open Go.ChangeMaps (open_string shut_string)
set_option linter.unusedVariables false
theorem own : ownKnob Tryz.prog.godebug = none := by kernel_rfl
set_option maxRecDepth 100000 in
theorem lifted (os : Os) (started : os.Started) (H : Type) (enc : TypeId × Value → H) :
    ReturnsInHanded {} Tryz.checked os 13 .any (fun w args => (Rows.escapeSignsSpec.pre enc Tryz.prog Tryz.f13 Rows.escapeSignsRow.domain false w args ∧ laidMetH Tryz.prog Rows.escapeSignsRow.laid w) ∧ sizedMet enc Tryz.prog Tryz.f13 (OpenSpec.ofChange Rows.escapeSignsSpec) false w args)
      (Rows.escapeSignsSpec.post enc Tryz.prog Tryz.f13 false true false false) := by
  refine RowKit.handed_and_shaped (C := Tryz.checked) (X := fun w _ => laidMetH Tryz.prog Rows.escapeSignsRow.laid w) (fun _ _ _ hh h => h.of_heap hh) own started (by kernel_rfl) Tryz.func13
    (ChangeSpec.witness_shaped (enc := enc) (C := Tryz.checked) (os := os) (X := fun w _ => laidMetH Tryz.prog Rows.escapeSignsRow.laid w) false (World.laidAll Tryz.prog os Rows.escapeSignsRow.laid) #[.string ByteArray.empty] 8 (World.laidAll_os _ _ _)
      (World.shaped_of_ZipB (by kernel_rfl) (by kernel_rfl)) (by kernel_rfl) (by kernel_rfl) (by kernel_rfl)
      (by rw [MakeChecks.laidMetH_plain _ _ _ (by kernel_rfl)]; exact laidMet_laidAll _ (by kernel_rfl) (by kernel_rfl))) ?_
  intro W base args ds gs before hval0 hW hsz0 hlaid hsh
  have hsz : (DataW.weightsEach Tryz.prog (Tryz.f13.params.toList ++ Rows.escapeSignsSpec.plain.varTypes Tryz.prog) (ds ++ gs)).all (· ≤ reachBytes) = true := hsz0
  have hval : ∀ (j : Nat) t v, Tryz.f13.params[j]? = some t → args[j]? = some v → Value.okWide Tryz.prog W .any base t v := hval0
  have hW' := hW
  obtain ⟨p, q, hA0, hV, rfl, hfz, hnd⟩ := hW
  have hA : DataW.TrodAll enc Tryz.prog W 0 (fun _ => true) true Tryz.f13.params.toList args.toList ds p := hA0
  rw [Tryz.params13] at hA hval hsz
  obtain ⟨v0, vs0, d0, ds0, p0, q0, hargs, rfl, rfl, h0, r0⟩ := trodAll_cons hA
  obtain ⟨rfl, rfl, rfl⟩ := trodAll_nil r0
  obtain rfl : args = #[v0] := by cases args; simp_all
  obtain ⟨rfl, rfl⟩ := trodVars_none hV
  obtain ⟨a0, rfl, rfl, rfl, y0⟩ := open_string Tryz.underlying9 (hval 0 9 v0 rfl rfl) h0
  have w0 : a0.size ≤ 140737488351232 := by
    have z := sized_string hsz (j := 0) (t := 9) rfl rfl
    rw [Array.length_toList] at z
    exact z
  clear hA0 hval0 hsz0 hsz
  refine (Hand.EscapeSigns_law a0 W w0 (RowKit.glob_of_laid hsh hlaid (by kernel_rfl) (List.mem_of_getElem? (i := 5) rfl))).mono fun e W' ⟨he, bel⟩ => ?_
  subst he
  exact ⟨_, rfl, _, _, _, [], _, [], hW', trodAll_mk1 (shut_bool Tryz.underlying4 _), (trodAll_cons_mk (shut_string Tryz.underlying9 y0) trodAll_mk0), rfl, bel.frame _, fun h => by cases h⟩
theorem k1 : (Rows.escapeSignsRow.wf (OpenSpec.ofChange Rows.escapeSignsSpec)) = true := by kernel_rfl
theorem k4 : (Tryz.f13.params.all (Tryz.prog.readableRec ·)) = true := by kernel_rfl
theorem k5 : (namedTie Tryz.prog Rows.escapeSignsRow.named Rows.escapeSignsSpec.vars) = true := by kernel_rfl
theorem k6 : (Rows.escapeSignsRow.stops == []) = true := by kernel_rfl
theorem k8 : (Rows.escapeSignsRow.knobs == []) = true := by kernel_rfl
theorem k10 : (Rows.escapeSignsRow.inPlace == Tryz.prog.inPlace 13) = true := by kernel_rfl
theorem k11 : (Rows.escapeSignsRow.unfollowed == Tryz.prog.unfollowed 13) = true := by kernel_rfl
theorem k12 : (Rows.escapeSignsRow.recurses == Tryz.prog.recurses 13) = true := by kernel_rfl
theorem k13 : (Rows.escapeSignsRow.named == Tryz.prog.varsNamed 13) = true := by kernel_rfl
theorem k14 : (Rows.escapeSignsRow.maps == (Tryz.f13.params.toList ++ Rows.escapeSignsSpec.plain.varTypes Tryz.prog).any (Tryz.prog.mapsRec ·)) = true := by kernel_rfl
theorem k15 : (Rows.escapeSignsRow.ifaces == (Tryz.f13.params.toList ++ Rows.escapeSignsSpec.plain.varTypes Tryz.prog).any (Tryz.prog.ifacesRec ·)) = true := by kernel_rfl
theorem k16 : (Rows.escapeSignsRow.mapsOut == Tryz.prog.mapsAmong Tryz.f13.resultTypes.toList) = true := by kernel_rfl
theorem k17 : (Rows.escapeSignsRow.loops == (Tryz.f13.params.toList ++ Rows.escapeSignsSpec.plain.varTypes Tryz.prog).any (Tryz.prog.loopsFrom ·)) = true := by kernel_rfl
theorem k18 : (Rows.escapeSignsRow.wideKeys == (Tryz.f13.params.toList ++ Rows.escapeSignsSpec.plain.varTypes Tryz.prog ++ Tryz.f13.resultTypes.toList).any (Tryz.prog.wideKeysFrom ·)) = true := by kernel_rfl
theorem k19 : (Rows.escapeSignsSpec.vars.all (Tryz.prog.varReadable ·)) = true := by kernel_rfl
theorem k20 : (Tryz.f13.resultTypes.all (fun t => Tryz.prog.readableRec t && decide (t < Tryz.prog.types.size))) = true := by kernel_rfl
theorem k21 : (Rows.escapeSignsRow.ifacesOut == Tryz.f13.resultTypes.toList.any (Tryz.prog.ifacesRec ·)) = true := by kernel_rfl
theorem k22 : (Rows.escapeSignsRow.loopsOut == Tryz.f13.resultTypes.toList.any (Tryz.prog.loopsFrom ·)) = true := by kernel_rfl
theorem k24 : (Rows.escapeSignsRow.shortTexts.isNone) = true := by kernel_rfl
theorem k30 : (Rows.escapeSignsRow.pinned == Rows.escapeSignsRow.pinnedBy) = true := by kernel_rfl
theorem k31 : (Rows.escapeSignsRow.veiled == (Tryz.f13.params.toList ++ Rows.escapeSignsSpec.plain.varTypes Tryz.prog ++ Tryz.f13.resultTypes.toList).any (Tryz.prog.veiledRec ·)) = true := by kernel_rfl
theorem k32 : (Rows.escapeSignsRow.veiledFits Tryz.prog Tryz.f13.params.toList (Tryz.f13.params.toList ++ Rows.escapeSignsSpec.plain.varTypes Tryz.prog ++ Tryz.f13.resultTypes.toList)) = true := by kernel_rfl
theorem named_is : Tryz.prog.funcNamed Rows.escapeSignsRow.func = some 13 := by kernel_rfl
theorem inst_is : Tryz.f13.isInstance Tryz.prog Rows.escapeSignsRow.origin Rows.escapeSignsRow.targs := of_decide_eq_true (by kernel_rfl)
theorem over : Rows.EscapeSignsSaid :=
  OpenClaim.holds_of_wide 13 Tryz.f13 rfl rfl rfl rfl rfl rfl rfl ⟨rfl, rfl, rfl, rfl, rfl⟩ rfl rfl rfl rfl rfl named_is Tryz.func13
    (RowKit.joined k1 k4 k5 k6 k8 k10 k11 k12 k13 k14 k15 k16 k17 k18 k19 k20 k21 k22 rfl k24 rfl rfl rfl rfl k30 k31 k32)
    inst_is (by unfold Func.isWrapper; first | (rw [if_pos (by decide +kernel)]; kernel_rfl) | (rw [if_neg (by decide +kernel)]; exact ⟨rfl, rfl⟩))
    (fun os started H enc _ => lifted os started H enc)
theorem card_wf : Rows.escapeSignsRow.wfByText (OpenSpec.ofChange Rows.escapeSignsSpec) = true := by kernel_rfl
theorem card_main : Tryz.prog.mainIs = some (Rows.escapeSignsCard.stood.harness.1, Rows.escapeSignsCard.stood.harness.2.toList) := RowKit.main_is
theorem card_goes : false = Rows.escapeSignsRow.goesBy Tryz.prog := by kernel_rfl
theorem card_looks : true = Tryz.prog.looks [] := RowKit.looks_is.symm
theorem card_stand : ([9].all fun u => !Tryz.prog.wantsStandIn u) = true := by kernel_rfl
theorem card_holds : Rows.EscapeSignsCardSaid :=
  Claim7.holds_tied_plain_at .later [] [.data, .data, .data, .data, .sentinel, .sentinel, .pinned] true Rows.escapeSignsCard.stood.harness true over (fun _ h => by cases h) card_wf (fun _ h => by cases h) escapeSigns_row_tie rfl ⟨rfl, rfl⟩ card_main rfl
    (fun f fn hf hfn => by
      obtain rfl : f = 13 := Option.some.inj (named_is.symm.trans hf) |>.symm
      obtain rfl : fn = Tryz.f13 := (Option.some.inj (Tryz.func13.symm.trans hfn)).symm
      exact ⟨card_looks, fun j t ht => by
        rw [Tryz.params13] at ht
        have hm : t ∈ [9] := by simpa using Array.mem_of_getElem? ht
        exact (show Tryz.prog.wantsStandIn t = false by simpa using List.all_eq_true.1 card_stand t hm)⟩)
    card_goes
end Go.Proofs.YtclkdmmgibgamaaGreatDoor.escapeSigns
namespace Go.Proofs.YtclkdmmgibgamaaGreatDoor
theorem escapeSigns_holds : Rows.EscapeSignsCardSaid := escapeSigns.card_holds
#print axioms escapeSigns_holds
end Go.Proofs.YtclkdmmgibgamaaGreatDoor
