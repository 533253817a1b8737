/-
  The statement SafeTells of the given program: proved for every input, without a condition of ours: the printed walk of the call, and the pure statement about what it computes.
-/
import Derived.Test.YtdheknlnhfegnaaDoorRows
import Derived.Test.YtdheknlnhfegnaaDoorTie
import Derived.Test.YtdheknlnhfegnaaDoorCards
import Derived.Test.YtdheknlnhfegnaaDoorZbc
import Derived.WalkKit
import Derived.ProofKit
import Derived.OpenShut
import Derived.ShutString
import Derived.ChangeOld
import Derived.Below
import Derived.SizedLaws
import Derived.LaidMore
import Derived.Lay
import Derived.SevenTiedAt
import Derived.Stop.Joined
namespace Go.Proofs.YtdheknlnhfegnaaDoor.safeTells
open Go.ChangeShapes Go.WideShapes Go.ChangeAt Go.RowKit
open Go.ChangeMaps (open_string shut_string)
set_option linter.unusedVariables false
theorem own : ownKnob Tryd.prog.godebug = none := by kernel_rfl
set_option maxRecDepth 100000 in
theorem lifted (os : Os) (started : os.Started) (H : Type) (enc : TypeId × Value → H) :
    ReturnsInHanded {} Tryd.checked os 3 .any (fun w args => (Rows.safeTellsSpec.pre enc Tryd.prog Tryd.f3 Rows.safeTellsRow.domain false w args ∧ laidMetH Tryd.prog Rows.safeTellsRow.laid w) ∧ sizedMet enc Tryd.prog Tryd.f3 (OpenSpec.ofChange Rows.safeTellsSpec) false w args)
      (Rows.safeTellsSpec.post enc Tryd.prog Tryd.f3 false true false false) := by
  refine RowKit.handed_and_shaped (C := Tryd.checked) (X := fun w _ => laidMetH Tryd.prog Rows.safeTellsRow.laid w) (fun _ _ _ hh h => h.of_heap hh) own started (by kernel_rfl) Tryd.func3
    (ChangeSpec.witness_shaped (enc := enc) (C := Tryd.checked) (os := os) (X := fun w _ => laidMetH Tryd.prog Rows.safeTellsRow.laid w) false (World.laidAll Tryd.prog os Rows.safeTellsRow.laid) #[.int .i64 0, .string ByteArray.empty, .bool false] 8 (World.laidAll_os _ _ _)
      (World.shaped_of_ZipB (by kernel_rfl) (by kernel_rfl)) (by kernel_rfl) (by kernel_rfl) (by kernel_rfl)
      (by rw [MakeChecks.laidMetH_plain _ _ _ (by kernel_rfl)]; exact laidMet_laidAll _ (by kernel_rfl) (by kernel_rfl))) ?_
  intro W base args ds gs before hval0 hW hsz0 hlaid hsh
  have hsz : (DataW.weightsEach Tryd.prog (Tryd.f3.params.toList ++ Rows.safeTellsSpec.plain.varTypes Tryd.prog) (ds ++ gs)).all (· ≤ reachBytes) = true := hsz0
  have hval : ∀ (j : Nat) t v, Tryd.f3.params[j]? = some t → args[j]? = some v → Value.okWide Tryd.prog W .any base t v := hval0
  have hW' := hW
  obtain ⟨p, q, hA0, hV, rfl, hfz, hnd⟩ := hW
  have hA : DataW.TrodAll enc Tryd.prog W 0 (fun _ => true) true Tryd.f3.params.toList args.toList ds p := hA0
  rw [Tryd.params3] at hA hval hsz
  obtain ⟨v0, vs0, d0, ds0, p0, q0, hargs, rfl, rfl, h0, r0⟩ := trodAll_cons hA
  obtain ⟨v1, vs1, d1, ds1, p1, q1, rfl, rfl, rfl, h1, r1⟩ := trodAll_cons r0
  obtain ⟨v2, vs2, d2, ds2, p2, q2, rfl, rfl, rfl, h2, r2⟩ := trodAll_cons r1
  obtain ⟨rfl, rfl, rfl⟩ := trodAll_nil r2
  obtain rfl : args = #[v0, v1, v2] := by cases args; simp_all
  obtain ⟨rfl, rfl⟩ := trodVars_none hV
  obtain ⟨a0, rfl, rfl, rfl, w0⟩ := open_int Tryd.underlying3 (hval 0 3 v0 rfl rfl) h0
  obtain ⟨a1, rfl, rfl, rfl, y1⟩ := open_string Tryd.underlying9 (hval 1 9 v1 rfl rfl) h1
  have w1 : a1.size ≤ 140737488351232 := by
    have z := sized_string hsz (j := 1) (t := 9) rfl rfl
    rw [Array.length_toList] at z
    exact z
  obtain ⟨a2, rfl, rfl, rfl⟩ := open_bool Tryd.underlying4 (hval 2 4 v2 rfl rfl) h2
  clear hA0 hval0 hsz0 hsz
  refine (Hand.SafeTells_law a0 a1 a2 W w0 w1 (RowKit.glob_of_shape hsh) (RowKit.globE_of_laid hlaid (by kernel_rfl) (List.mem_of_getElem? (i := 4) rfl))).mono fun e W' ⟨he, bel⟩ => ?_
  subst he
  exact ⟨_, rfl, _, _, _, [], _, [], hW', trodAll_mk1 (shut_bool Tryd.underlying4 _), (trodAll_cons_mk (shut_int Tryd.underlying3 w0) (trodAll_cons_mk (shut_string Tryd.underlying9 y1) (trodAll_cons_mk (shut_bool Tryd.underlying4 _) trodAll_mk0))), rfl, bel.frame _, fun h => by cases h⟩
theorem k1 : (Rows.safeTellsRow.wf (OpenSpec.ofChange Rows.safeTellsSpec)) = true := by kernel_rfl
theorem k4 : (Tryd.f3.params.all (Tryd.prog.readableRec ·)) = true := by kernel_rfl
theorem k5 : (namedTie Tryd.prog Rows.safeTellsRow.named Rows.safeTellsSpec.vars) = true := by kernel_rfl
theorem k6 : (Rows.safeTellsRow.stops == []) = true := by kernel_rfl
theorem k8 : (Rows.safeTellsRow.knobs == []) = true := by kernel_rfl
theorem k10 : (Rows.safeTellsRow.inPlace == Tryd.prog.inPlace 3) = true := by kernel_rfl
theorem k11 : (Rows.safeTellsRow.unfollowed == Tryd.prog.unfollowed 3) = true := by kernel_rfl
theorem k12 : (Rows.safeTellsRow.recurses == Tryd.prog.recurses 3) = true := by kernel_rfl
theorem k13 : (Rows.safeTellsRow.named == Tryd.prog.varsNamed 3) = true := by kernel_rfl
theorem k14 : (Rows.safeTellsRow.maps == (Tryd.f3.params.toList ++ Rows.safeTellsSpec.plain.varTypes Tryd.prog).any (Tryd.prog.mapsRec ·)) = true := by kernel_rfl
theorem k15 : (Rows.safeTellsRow.ifaces == (Tryd.f3.params.toList ++ Rows.safeTellsSpec.plain.varTypes Tryd.prog).any (Tryd.prog.ifacesRec ·)) = true := by kernel_rfl
theorem k16 : (Rows.safeTellsRow.mapsOut == Tryd.prog.mapsAmong Tryd.f3.resultTypes.toList) = true := by kernel_rfl
theorem k17 : (Rows.safeTellsRow.loops == (Tryd.f3.params.toList ++ Rows.safeTellsSpec.plain.varTypes Tryd.prog).any (Tryd.prog.loopsFrom ·)) = true := by kernel_rfl
theorem k18 : (Rows.safeTellsRow.wideKeys == (Tryd.f3.params.toList ++ Rows.safeTellsSpec.plain.varTypes Tryd.prog ++ Tryd.f3.resultTypes.toList).any (Tryd.prog.wideKeysFrom ·)) = true := by kernel_rfl
theorem k19 : (Rows.safeTellsSpec.vars.all (Tryd.prog.varReadable ·)) = true := by kernel_rfl
theorem k20 : (Tryd.f3.resultTypes.all (fun t => Tryd.prog.readableRec t && decide (t < Tryd.prog.types.size))) = true := by kernel_rfl
theorem k21 : (Rows.safeTellsRow.ifacesOut == Tryd.f3.resultTypes.toList.any (Tryd.prog.ifacesRec ·)) = true := by kernel_rfl
theorem k22 : (Rows.safeTellsRow.loopsOut == Tryd.f3.resultTypes.toList.any (Tryd.prog.loopsFrom ·)) = true := by kernel_rfl
theorem k24 : (Rows.safeTellsRow.shortTexts.isNone) = true := by kernel_rfl
theorem k30 : (Rows.safeTellsRow.pinned == Rows.safeTellsRow.pinnedBy) = true := by kernel_rfl
theorem k31 : (Rows.safeTellsRow.veiled == (Tryd.f3.params.toList ++ Rows.safeTellsSpec.plain.varTypes Tryd.prog ++ Tryd.f3.resultTypes.toList).any (Tryd.prog.veiledRec ·)) = true := by kernel_rfl
theorem k32 : (Rows.safeTellsRow.veiledFits Tryd.prog Tryd.f3.params.toList (Tryd.f3.params.toList ++ Rows.safeTellsSpec.plain.varTypes Tryd.prog ++ Tryd.f3.resultTypes.toList)) = true := by kernel_rfl
theorem named_is : Tryd.prog.funcNamed Rows.safeTellsRow.func = some 3 := by kernel_rfl
theorem inst_is : Tryd.f3.isInstance Tryd.prog Rows.safeTellsRow.origin Rows.safeTellsRow.targs := of_decide_eq_true (by kernel_rfl)
theorem over : Rows.SafeTellsSaid :=
  OpenClaim.holds_of_wide 3 Tryd.f3 rfl rfl rfl rfl rfl rfl rfl ⟨rfl, rfl, rfl, rfl, rfl⟩ rfl rfl rfl rfl rfl named_is Tryd.func3
    (RowKit.joined k1 k4 k5 k6 k8 k10 k11 k12 k13 k14 k15 k16 k17 k18 k19 k20 k21 k22 rfl k24 rfl rfl rfl rfl k30 k31 k32)
    inst_is (by unfold Func.isWrapper; first | (rw [if_pos (by decide +kernel)]; kernel_rfl) | (rw [if_neg (by decide +kernel)]; exact ⟨rfl, rfl⟩))
    (fun os started H enc _ => lifted os started H enc)
theorem card_wf : Rows.safeTellsRow.wfByText (OpenSpec.ofChange Rows.safeTellsSpec) = true := by kernel_rfl
theorem card_main : Tryd.prog.mainIs = some (Rows.safeTellsCard.stood.harness.1, Rows.safeTellsCard.stood.harness.2.toList) := RowKit.main_is
theorem card_goes : false = Rows.safeTellsRow.goesBy Tryd.prog := by kernel_rfl
theorem card_looks : true = Tryd.prog.looks [] := RowKit.looks_is.symm
theorem card_stand : ([3, 9, 4].all fun u => !Tryd.prog.wantsStandIn u) = true := by kernel_rfl
theorem card_holds : Rows.SafeTellsCardSaid :=
  Claim7.holds_tied_plain_at .later [] [.data, .data, .data, .sentinel, .sentinel] true Rows.safeTellsCard.stood.harness true over (fun _ h => by cases h) card_wf (fun _ h => by cases h) safeTells_row_tie rfl ⟨rfl, rfl⟩ card_main rfl
    (fun f fn hf hfn => by
      obtain rfl : f = 3 := Option.some.inj (named_is.symm.trans hf) |>.symm
      obtain rfl : fn = Tryd.f3 := (Option.some.inj (Tryd.func3.symm.trans hfn)).symm
      exact ⟨card_looks, fun j t ht => by
        rw [Tryd.params3] at ht
        have hm : t ∈ [3, 9, 4] := by simpa using Array.mem_of_getElem? ht
        exact (show Tryd.prog.wantsStandIn t = false by simpa using List.all_eq_true.1 card_stand t hm)⟩)
    card_goes
end Go.Proofs.YtdheknlnhfegnaaDoor.safeTells
namespace Go.Proofs.YtdheknlnhfegnaaDoor
theorem safeTells_holds : Rows.SafeTellsCardSaid := safeTells.card_holds
#print axioms safeTells_holds
end Go.Proofs.YtdheknlnhfegnaaDoor
