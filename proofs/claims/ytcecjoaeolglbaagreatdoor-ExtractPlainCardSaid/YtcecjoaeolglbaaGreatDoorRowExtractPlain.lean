/-
  The statement ExtractPlain of the given program: proved for every input, without a condition of ours: the printed walk of the call, and the pure statement about what it computes.
-/
import Derived.Test.YtcecjoaeolglbaaGreatDoorRows
import Derived.Test.YtcecjoaeolglbaaGreatDoorTie
import Derived.Test.YtcecjoaeolglbaaGreatDoorCards
import Derived.Test.YtcecjoaeolglbaaGreatDoorZyExtractPlaina
import Derived.WalkKit
import Derived.ProofKit
import Derived.OpenShut
import Derived.ShutString
import Derived.ChangeOld
import Derived.Below
import Derived.SizedLaws
import Derived.LaidMore
import Derived.Lay
import Derived.SevenTiedAt
import Derived.Stop.Joined
namespace Go.Proofs.YtcecjoaeolglbaaGreatDoor.extractPlain
open Go.ChangeShapes Go.WideShapes Go.ChangeAt Go.RowKit
open Go.ChangeMaps (open_string shut_string)
set_option linter.unusedVariables false
theorem own : ownKnob Tryz.prog.godebug = none := by kernel_rfl
theorem laidOut : laidOutB Tryz.prog = true := by kernel_rfl
def IsRow (k : IntKind) (w : World) (a : Option Addr) (len cap : Nat) (zs : List Int) : Prop :=
  (a = none ∧ len = 0 ∧ cap = 0 ∧ zs = []) ∨
  ∃ x, a = some x ∧ len ≤ cap ∧ cap ≤ maxLen ∧ zs.length = cap ∧ (∀ i, i < zs.length → w.cell? (x.add i) = some (.int k (zs.getD i 0))) ∧ ∀ n ∈ zs, (Lit.int k n).wf = true
set_option maxRecDepth 100000 in
theorem lifted (os : Os) (started : os.Started) (H : Type) (enc : TypeId × Value → H) :
    ReturnsInHanded {} Tryz.checked os 15 .any (fun w args => (Rows.extractPlainSpec.pre enc Tryz.prog Tryz.f15 Rows.extractPlainRow.domain false w args ∧ laidMetH Tryz.prog Rows.extractPlainRow.laid w) ∧ sizedMet enc Tryz.prog Tryz.f15 (OpenSpec.ofChange Rows.extractPlainSpec) false w args)
      (Rows.extractPlainSpec.post enc Tryz.prog Tryz.f15 false true false false) := by
  refine RowKit.handed_and_shaped (C := Tryz.checked) (X := fun w _ => laidMetH Tryz.prog Rows.extractPlainRow.laid w) (fun _ _ _ hh h => h.of_heap hh) own started (by kernel_rfl) Tryz.func15
    (ChangeSpec.witness_shaped (enc := enc) (C := Tryz.checked) (os := os) (X := fun w _ => laidMetH Tryz.prog Rows.extractPlainRow.laid w) false (World.laidAll Tryz.prog os Rows.extractPlainRow.laid) #[.slice none 0 0] 8 (World.laidAll_os _ _ _)
      (World.shaped_of_ZipB (by kernel_rfl) (by kernel_rfl)) (by kernel_rfl) (by kernel_rfl) (by kernel_rfl)
      (by rw [MakeChecks.laidMetH_plain _ _ _ (by kernel_rfl)]; exact laidMet_laidAll _ (by kernel_rfl) (by kernel_rfl))) ?_
  intro W base args ds gs before hval0 hW hsz0 hlaid hsh
  have hsz : (DataW.weightsEach Tryz.prog (Tryz.f15.params.toList ++ Rows.extractPlainSpec.plain.varTypes Tryz.prog) (ds ++ gs)).all (· ≤ reachBytes) = true := hsz0
  have hval : ∀ (j : Nat) t v, Tryz.f15.params[j]? = some t → args[j]? = some v → Value.okWide Tryz.prog W .any base t v := hval0
  have hW' := hW
  obtain ⟨p, q, hA0, hV, rfl, hfz, hnd⟩ := hW
  have hA : DataW.TrodAll enc Tryz.prog W 0 (fun _ => true) true Tryz.f15.params.toList args.toList ds p := hA0
  rw [Tryz.params15] at hA hval hsz
  obtain ⟨v0, vs0, d0, ds0, p0, q0, hargs, rfl, rfl, h0, r0⟩ := trodAll_cons hA
  obtain ⟨rfl, rfl, rfl⟩ := trodAll_nil r0
  obtain rfl : args = #[v0] := by cases args; simp_all
  obtain ⟨rfl, rfl⟩ := trodVars_none hV
  obtain ⟨a0, len0, cap0, rfl⟩ := okWide_slice Tryz.underlying27 (hval 0 27 v0 rfl rfl)
  have k0 := h0
  have lt0 : ∀ x ∈ p0, x.block < W.heap.size := by obtain ⟨m, hm⟩ := k0; exact DataW.trod_lt m _ _ _ hm
  obtain ⟨z0, w0⟩ : ∃ zs, IsRow .u8 W a0 len0 cap0 zs := by
    obtain ⟨fuel, hf⟩ := h0
    rcases open_ints Tryz.underlying27 Tryz.underlying5 (by kernel_rfl) hf with ⟨hcs, _⟩ | ⟨x, l, c, zs, hcs, _, hl, hm, hz, _, hcell, hwz⟩
    · simp [Value.cells] at hcs
      obtain ⟨rfl, rfl, rfl⟩ := hcs
      exact ⟨[], .inl ⟨rfl, rfl, rfl, rfl⟩⟩
    · simp [Value.cells] at hcs
      obtain ⟨rfl, rfl, rfl⟩ := hcs
      exact ⟨zs, .inr ⟨_, rfl, hl, hm, by simpa using hz, hcell, hwz⟩⟩
  have y0 : len0 * 1 ≤ 140737488351232 := Go.Proofs.YtcecjoaeolglbaaGreatDoorW.PrintWords.sized_ints hsz (j := 0) (t := 27) rfl rfl Tryz.underlying27 Tryz.underlying5 (by kernel_rfl) (by kernel_rfl) h0
  clear hA0 hval0 hsz0 hsz
  refine (Hand.ExtractPlain_law a0 len0 cap0 z0 W w0 y0 (RowKit.glob_of_laid hsh hlaid (by kernel_rfl) (List.mem_of_getElem? (i := 5) rfl))).mono fun e W' ⟨he, bel⟩ => ?_
  subst he
  exact ⟨_, rfl, _, _, _, [], _, [], hW', trodAll_mk1 (shut_bool Tryz.underlying4 _), (trodAll_cons_mk (Below.trod laidOut (by kernel_rfl) (of_decide_eq_true (by kernel_rfl)) k0 bel lt0) trodAll_mk0), rfl, bel.frame _, fun h => by cases h⟩
theorem k1 : (Rows.extractPlainRow.wf (OpenSpec.ofChange Rows.extractPlainSpec)) = true := by kernel_rfl
theorem k4 : (Tryz.f15.params.all (Tryz.prog.readableRec ·)) = true := by kernel_rfl
theorem k5 : (namedTie Tryz.prog Rows.extractPlainRow.named Rows.extractPlainSpec.vars) = true := by kernel_rfl
theorem k6 : (Rows.extractPlainRow.stops == []) = true := by kernel_rfl
theorem k8 : (Rows.extractPlainRow.knobs == []) = true := by kernel_rfl
theorem k10 : (Rows.extractPlainRow.inPlace == Tryz.prog.inPlace 15) = true := by kernel_rfl
theorem k11 : (Rows.extractPlainRow.unfollowed == Tryz.prog.unfollowed 15) = true := by kernel_rfl
theorem k12 : (Rows.extractPlainRow.recurses == Tryz.prog.recurses 15) = true := by kernel_rfl
theorem k13 : (Rows.extractPlainRow.named == Tryz.prog.varsNamed 15) = true := by kernel_rfl
theorem k14 : (Rows.extractPlainRow.maps == (Tryz.f15.params.toList ++ Rows.extractPlainSpec.plain.varTypes Tryz.prog).any (Tryz.prog.mapsRec ·)) = true := by kernel_rfl
theorem k15 : (Rows.extractPlainRow.ifaces == (Tryz.f15.params.toList ++ Rows.extractPlainSpec.plain.varTypes Tryz.prog).any (Tryz.prog.ifacesRec ·)) = true := by kernel_rfl
theorem k16 : (Rows.extractPlainRow.mapsOut == Tryz.prog.mapsAmong Tryz.f15.resultTypes.toList) = true := by kernel_rfl
theorem k17 : (Rows.extractPlainRow.loops == (Tryz.f15.params.toList ++ Rows.extractPlainSpec.plain.varTypes Tryz.prog).any (Tryz.prog.loopsFrom ·)) = true := by kernel_rfl
theorem k18 : (Rows.extractPlainRow.wideKeys == (Tryz.f15.params.toList ++ Rows.extractPlainSpec.plain.varTypes Tryz.prog ++ Tryz.f15.resultTypes.toList).any (Tryz.prog.wideKeysFrom ·)) = true := by kernel_rfl
theorem k19 : (Rows.extractPlainSpec.vars.all (Tryz.prog.varReadable ·)) = true := by kernel_rfl
theorem k20 : (Tryz.f15.resultTypes.all (fun t => Tryz.prog.readableRec t && decide (t < Tryz.prog.types.size))) = true := by kernel_rfl
theorem k21 : (Rows.extractPlainRow.ifacesOut == Tryz.f15.resultTypes.toList.any (Tryz.prog.ifacesRec ·)) = true := by kernel_rfl
theorem k22 : (Rows.extractPlainRow.loopsOut == Tryz.f15.resultTypes.toList.any (Tryz.prog.loopsFrom ·)) = true := by kernel_rfl
theorem k24 : (Rows.extractPlainRow.shortTexts.isNone) = true := by kernel_rfl
theorem k30 : (Rows.extractPlainRow.pinned == Rows.extractPlainRow.pinnedBy) = true := by kernel_rfl
theorem k31 : (Rows.extractPlainRow.veiled == (Tryz.f15.params.toList ++ Rows.extractPlainSpec.plain.varTypes Tryz.prog ++ Tryz.f15.resultTypes.toList).any (Tryz.prog.veiledRec ·)) = true := by kernel_rfl
theorem k32 : (Rows.extractPlainRow.veiledFits Tryz.prog Tryz.f15.params.toList (Tryz.f15.params.toList ++ Rows.extractPlainSpec.plain.varTypes Tryz.prog ++ Tryz.f15.resultTypes.toList)) = true := by kernel_rfl
theorem named_is : Tryz.prog.funcNamed Rows.extractPlainRow.func = some 15 := by kernel_rfl
theorem inst_is : Tryz.f15.isInstance Tryz.prog Rows.extractPlainRow.origin Rows.extractPlainRow.targs := of_decide_eq_true (by kernel_rfl)
theorem over : Rows.ExtractPlainSaid :=
  OpenClaim.holds_of_wide 15 Tryz.f15 rfl rfl rfl rfl rfl rfl rfl ⟨rfl, rfl, rfl, rfl, rfl⟩ rfl rfl rfl rfl rfl named_is Tryz.func15
    (RowKit.joined k1 k4 k5 k6 k8 k10 k11 k12 k13 k14 k15 k16 k17 k18 k19 k20 k21 k22 rfl k24 rfl rfl rfl rfl k30 k31 k32)
    inst_is (by unfold Func.isWrapper; first | (rw [if_pos (by decide +kernel)]; kernel_rfl) | (rw [if_neg (by decide +kernel)]; exact ⟨rfl, rfl⟩))
    (fun os started H enc _ => lifted os started H enc)
theorem card_wf : Rows.extractPlainRow.wfByText (OpenSpec.ofChange Rows.extractPlainSpec) = true := by kernel_rfl
theorem card_main : Tryz.prog.mainIs = some (Rows.extractPlainCard.stood.harness.1, Rows.extractPlainCard.stood.harness.2.toList) := RowKit.main_is
theorem card_goes : false = Rows.extractPlainRow.goesBy Tryz.prog := by kernel_rfl
theorem card_looks : true = Tryz.prog.looks [] := RowKit.looks_is.symm
theorem card_stand : ([27].all fun u => !Tryz.prog.wantsStandIn u) = true := by kernel_rfl
theorem card_holds : Rows.ExtractPlainCardSaid :=
  Claim7.holds_tied_plain_at .later [] [.data, .data, .data, .data, .sentinel, .sentinel, .pinned] true Rows.extractPlainCard.stood.harness true over (fun _ h => by cases h) card_wf (fun _ h => by cases h) extractPlain_row_tie rfl ⟨rfl, rfl⟩ card_main rfl
    (fun f fn hf hfn => by
      obtain rfl : f = 15 := Option.some.inj (named_is.symm.trans hf) |>.symm
      obtain rfl : fn = Tryz.f15 := (Option.some.inj (Tryz.func15.symm.trans hfn)).symm
      exact ⟨card_looks, fun j t ht => by
        rw [Tryz.params15] at ht
        have hm : t ∈ [27] := by simpa using Array.mem_of_getElem? ht
        exact (show Tryz.prog.wantsStandIn t = false by simpa using List.all_eq_true.1 card_stand t hm)⟩)
    card_goes
end Go.Proofs.YtcecjoaeolglbaaGreatDoor.extractPlain
namespace Go.Proofs.YtcecjoaeolglbaaGreatDoor
theorem extractPlain_holds : Rows.ExtractPlainCardSaid := extractPlain.card_holds
#print axioms extractPlain_holds
end Go.Proofs.YtcecjoaeolglbaaGreatDoor
