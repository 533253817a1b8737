/-
  The statement ExtractBlocks of the given program: proved for every input, without a condition of ours: the printed walk of the call, and the pure statement about what it computes.
-/
import Derived.Test.YtclkdmmgibgamaaGreatDoorRows
import Derived.Test.YtclkdmmgibgamaaGreatDoorTie
import Derived.Test.YtclkdmmgibgamaaGreatDoorCards
import Derived.Test.YtclkdmmgibgamaaGreatDoorZvExtractBlocksa
import Derived.WalkKit
import Derived.ProofKit
import Derived.OpenShut
import Derived.ShutString
import Derived.ChangeOld
import Derived.Below
import Derived.SizedLaws
import Derived.LaidMore
import Derived.Lay
import Derived.SevenTiedAt
import Derived.Stop.Joined
namespace Go.Proofs.YtclkdmmgibgamaaGreatDoor.extractBlocks
open Go.ChangeShapes Go.WideShapes Go.ChangeAt Go.RowKit
open Go.ChangeMaps (open_string shut_string)
set_option linter.unusedVariables false
theorem own : ownKnob Tryz.prog.godebug = none := by kernel_rfl
theorem laidOut : laidOutB Tryz.prog = true := by kernel_rfl
def IsRow (k : IntKind) (w : World) (a : Option Addr) (len cap : Nat) (zs : List Int) : Prop :=
  (a = none ∧ len = 0 ∧ cap = 0 ∧ zs = []) ∨
  ∃ x, a = some x ∧ len ≤ cap ∧ cap ≤ maxLen ∧ zs.length = cap ∧ (∀ i, i < zs.length → w.cell? (x.add i) = some (.int k (zs.getD i 0))) ∧ ∀ n ∈ zs, (Lit.int k n).wf = true
set_option maxRecDepth 100000 in
theorem lifted (os : Os) (started : os.Started) (H : Type) (enc : TypeId × Value → H) :
    ReturnsInHanded {} Tryz.checked os 11 .any (fun w args => (Rows.extractBlocksSpec.pre enc Tryz.prog Tryz.f11 Rows.extractBlocksRow.domain false w args ∧ laidMetH Tryz.prog Rows.extractBlocksRow.laid w) ∧ sizedMet enc Tryz.prog Tryz.f11 (OpenSpec.ofChange Rows.extractBlocksSpec) false w args)
      (Rows.extractBlocksSpec.post enc Tryz.prog Tryz.f11 false true false false) := by
  refine RowKit.handed_and_shaped (C := Tryz.checked) (X := fun w _ => laidMetH Tryz.prog Rows.extractBlocksRow.laid w) (fun _ _ _ hh h => h.of_heap hh) own started (by kernel_rfl) Tryz.func11
    (ChangeSpec.witness_shaped (enc := enc) (C := Tryz.checked) (os := os) (X := fun w _ => laidMetH Tryz.prog Rows.extractBlocksRow.laid w) false (World.laidAll Tryz.prog os Rows.extractBlocksRow.laid) #[.slice none 0 0, .slice none 0 0] 8 (World.laidAll_os _ _ _)
      (World.shaped_of_ZipB (by kernel_rfl) (by kernel_rfl)) (by kernel_rfl) (by kernel_rfl) (by kernel_rfl)
      (by rw [MakeChecks.laidMetH_plain _ _ _ (by kernel_rfl)]; exact laidMet_laidAll _ (by kernel_rfl) (by kernel_rfl))) ?_
  intro W base args ds gs before hval0 hW hsz0 hlaid hsh
  have hsz : (DataW.weightsEach Tryz.prog (Tryz.f11.params.toList ++ Rows.extractBlocksSpec.plain.varTypes Tryz.prog) (ds ++ gs)).all (· ≤ reachBytes) = true := hsz0
  have hval : ∀ (j : Nat) t v, Tryz.f11.params[j]? = some t → args[j]? = some v → Value.okWide Tryz.prog W .any base t v := hval0
  have hW' := hW
  obtain ⟨p, q, hA0, hV, rfl, hfz, hnd⟩ := hW
  have hA : DataW.TrodAll enc Tryz.prog W 0 (fun _ => true) true Tryz.f11.params.toList args.toList ds p := hA0
  rw [Tryz.params11] at hA hval hsz
  obtain ⟨v0, vs0, d0, ds0, p0, q0, hargs, rfl, rfl, h0, r0⟩ := trodAll_cons hA
  obtain ⟨v1, vs1, d1, ds1, p1, q1, rfl, rfl, rfl, h1, r1⟩ := trodAll_cons r0
  obtain ⟨rfl, rfl, rfl⟩ := trodAll_nil r1
  obtain rfl : args = #[v0, v1] := by cases args; simp_all
  obtain ⟨rfl, rfl⟩ := trodVars_none hV
  obtain ⟨a0, len0, cap0, rfl⟩ := okWide_slice Tryz.underlying22 (hval 0 22 v0 rfl rfl)
  have k0 := h0
  have lt0 : ∀ x ∈ p0, x.block < W.heap.size := by obtain ⟨m, hm⟩ := k0; exact DataW.trod_lt m _ _ _ hm
  obtain ⟨z0, w0⟩ : ∃ zs, IsRow .u8 W a0 len0 cap0 zs := by
    obtain ⟨fuel, hf⟩ := h0
    rcases open_ints Tryz.underlying22 Tryz.underlying5 (by kernel_rfl) hf with ⟨hcs, _⟩ | ⟨x, l, c, zs, hcs, _, hl, hm, hz, _, hcell, hwz⟩
    · simp [Value.cells] at hcs
      obtain ⟨rfl, rfl, rfl⟩ := hcs
      exact ⟨[], .inl ⟨rfl, rfl, rfl, rfl⟩⟩
    · simp [Value.cells] at hcs
      obtain ⟨rfl, rfl, rfl⟩ := hcs
      exact ⟨zs, .inr ⟨_, rfl, hl, hm, by simpa using hz, hcell, hwz⟩⟩
  have y0 : len0 * 1 ≤ 140737488351232 := Go.Proofs.YtclkdmmgibgamaaGreatDoorW.PrintWords.sized_ints hsz (j := 0) (t := 22) rfl rfl Tryz.underlying22 Tryz.underlying5 (by kernel_rfl) (by kernel_rfl) h0
  obtain ⟨a1, len1, cap1, rfl⟩ := okWide_slice Tryz.underlying22 (hval 1 22 v1 rfl rfl)
  have k1 := h1
  have lt1 : ∀ x ∈ p1, x.block < W.heap.size := by obtain ⟨m, hm⟩ := k1; exact DataW.trod_lt m _ _ _ hm
  obtain ⟨z1, w1⟩ : ∃ zs, IsRow .u8 W a1 len1 cap1 zs := by
    obtain ⟨fuel, hf⟩ := h1
    rcases open_ints Tryz.underlying22 Tryz.underlying5 (by kernel_rfl) hf with ⟨hcs, _⟩ | ⟨x, l, c, zs, hcs, _, hl, hm, hz, _, hcell, hwz⟩
    · simp [Value.cells] at hcs
      obtain ⟨rfl, rfl, rfl⟩ := hcs
      exact ⟨[], .inl ⟨rfl, rfl, rfl, rfl⟩⟩
    · simp [Value.cells] at hcs
      obtain ⟨rfl, rfl, rfl⟩ := hcs
      exact ⟨zs, .inr ⟨_, rfl, hl, hm, by simpa using hz, hcell, hwz⟩⟩
  have y1 : len1 * 1 ≤ 140737488351232 := Go.Proofs.YtclkdmmgibgamaaGreatDoorW.PrintWords.sized_ints hsz (j := 1) (t := 22) rfl rfl Tryz.underlying22 Tryz.underlying5 (by kernel_rfl) (by kernel_rfl) h1
  clear hA0 hval0 hsz0 hsz
  refine (Hand.ExtractBlocks_law a0 len0 cap0 z0 a1 len1 cap1 z1 W w0 y0 w1 y1 (RowKit.glob_of_laid hsh hlaid (by kernel_rfl) (List.mem_of_getElem? (i := 5) rfl))).mono fun e W' ⟨he, bel⟩ => ?_
  subst he
  exact ⟨_, rfl, _, _, _, [], _, [], hW', trodAll_mk1 (shut_bool Tryz.underlying4 _), (trodAll_cons_mk (Below.trod laidOut (by kernel_rfl) (of_decide_eq_true (by kernel_rfl)) k0 bel lt0) (trodAll_cons_mk (Below.trod laidOut (by kernel_rfl) (of_decide_eq_true (by kernel_rfl)) k1 bel lt1) trodAll_mk0)), rfl, bel.frame _, fun h => by cases h⟩
theorem k1 : (Rows.extractBlocksRow.wf (OpenSpec.ofChange Rows.extractBlocksSpec)) = true := by kernel_rfl
theorem k4 : (Tryz.f11.params.all (Tryz.prog.readableRec ·)) = true := by kernel_rfl
theorem k5 : (namedTie Tryz.prog Rows.extractBlocksRow.named Rows.extractBlocksSpec.vars) = true := by kernel_rfl
theorem k6 : (Rows.extractBlocksRow.stops == []) = true := by kernel_rfl
theorem k8 : (Rows.extractBlocksRow.knobs == []) = true := by kernel_rfl
theorem k10 : (Rows.extractBlocksRow.inPlace == Tryz.prog.inPlace 11) = true := by kernel_rfl
theorem k11 : (Rows.extractBlocksRow.unfollowed == Tryz.prog.unfollowed 11) = true := by kernel_rfl
theorem k12 : (Rows.extractBlocksRow.recurses == Tryz.prog.recurses 11) = true := by kernel_rfl
theorem k13 : (Rows.extractBlocksRow.named == Tryz.prog.varsNamed 11) = true := by kernel_rfl
theorem k14 : (Rows.extractBlocksRow.maps == (Tryz.f11.params.toList ++ Rows.extractBlocksSpec.plain.varTypes Tryz.prog).any (Tryz.prog.mapsRec ·)) = true := by kernel_rfl
theorem k15 : (Rows.extractBlocksRow.ifaces == (Tryz.f11.params.toList ++ Rows.extractBlocksSpec.plain.varTypes Tryz.prog).any (Tryz.prog.ifacesRec ·)) = true := by kernel_rfl
theorem k16 : (Rows.extractBlocksRow.mapsOut == Tryz.prog.mapsAmong Tryz.f11.resultTypes.toList) = true := by kernel_rfl
theorem k17 : (Rows.extractBlocksRow.loops == (Tryz.f11.params.toList ++ Rows.extractBlocksSpec.plain.varTypes Tryz.prog).any (Tryz.prog.loopsFrom ·)) = true := by kernel_rfl
theorem k18 : (Rows.extractBlocksRow.wideKeys == (Tryz.f11.params.toList ++ Rows.extractBlocksSpec.plain.varTypes Tryz.prog ++ Tryz.f11.resultTypes.toList).any (Tryz.prog.wideKeysFrom ·)) = true := by kernel_rfl
theorem k19 : (Rows.extractBlocksSpec.vars.all (Tryz.prog.varReadable ·)) = true := by kernel_rfl
theorem k20 : (Tryz.f11.resultTypes.all (fun t => Tryz.prog.readableRec t && decide (t < Tryz.prog.types.size))) = true := by kernel_rfl
theorem k21 : (Rows.extractBlocksRow.ifacesOut == Tryz.f11.resultTypes.toList.any (Tryz.prog.ifacesRec ·)) = true := by kernel_rfl
theorem k22 : (Rows.extractBlocksRow.loopsOut == Tryz.f11.resultTypes.toList.any (Tryz.prog.loopsFrom ·)) = true := by kernel_rfl
theorem k24 : (Rows.extractBlocksRow.shortTexts.isNone) = true := by kernel_rfl
theorem k30 : (Rows.extractBlocksRow.pinned == Rows.extractBlocksRow.pinnedBy) = true := by kernel_rfl
theorem k31 : (Rows.extractBlocksRow.veiled == (Tryz.f11.params.toList ++ Rows.extractBlocksSpec.plain.varTypes Tryz.prog ++ Tryz.f11.resultTypes.toList).any (Tryz.prog.veiledRec ·)) = true := by kernel_rfl
theorem k32 : (Rows.extractBlocksRow.veiledFits Tryz.prog Tryz.f11.params.toList (Tryz.f11.params.toList ++ Rows.extractBlocksSpec.plain.varTypes Tryz.prog ++ Tryz.f11.resultTypes.toList)) = true := by kernel_rfl
theorem named_is : Tryz.prog.funcNamed Rows.extractBlocksRow.func = some 11 := by kernel_rfl
theorem inst_is : Tryz.f11.isInstance Tryz.prog Rows.extractBlocksRow.origin Rows.extractBlocksRow.targs := of_decide_eq_true (by kernel_rfl)
theorem over : Rows.ExtractBlocksSaid :=
  OpenClaim.holds_of_wide 11 Tryz.f11 rfl rfl rfl rfl rfl rfl rfl ⟨rfl, rfl, rfl, rfl, rfl⟩ rfl rfl rfl rfl rfl named_is Tryz.func11
    (RowKit.joined k1 k4 k5 k6 k8 k10 k11 k12 k13 k14 k15 k16 k17 k18 k19 k20 k21 k22 rfl k24 rfl rfl rfl rfl k30 k31 k32)
    inst_is (by unfold Func.isWrapper; first | (rw [if_pos (by decide +kernel)]; kernel_rfl) | (rw [if_neg (by decide +kernel)]; exact ⟨rfl, rfl⟩))
    (fun os started H enc _ => lifted os started H enc)
theorem card_wf : Rows.extractBlocksRow.wfByText (OpenSpec.ofChange Rows.extractBlocksSpec) = true := by kernel_rfl
theorem card_main : Tryz.prog.mainIs = some (Rows.extractBlocksCard.stood.harness.1, Rows.extractBlocksCard.stood.harness.2.toList) := RowKit.main_is
theorem card_goes : false = Rows.extractBlocksRow.goesBy Tryz.prog := by kernel_rfl
theorem card_looks : true = Tryz.prog.looks [] := RowKit.looks_is.symm
theorem card_stand : ([22, 22].all fun u => !Tryz.prog.wantsStandIn u) = true := by kernel_rfl
theorem card_holds : Rows.ExtractBlocksCardSaid :=
  Claim7.holds_tied_plain_at .later [] [.data, .data, .data, .data, .sentinel, .sentinel, .pinned] true Rows.extractBlocksCard.stood.harness true over (fun _ h => by cases h) card_wf (fun _ h => by cases h) extractBlocks_row_tie rfl ⟨rfl, rfl⟩ card_main rfl
    (fun f fn hf hfn => by
      obtain rfl : f = 11 := Option.some.inj (named_is.symm.trans hf) |>.symm
      obtain rfl : fn = Tryz.f11 := (Option.some.inj (Tryz.func11.symm.trans hfn)).symm
      exact ⟨card_looks, fun j t ht => by
        rw [Tryz.params11] at ht
        have hm : t ∈ [22, 22] := by simpa using Array.mem_of_getElem? ht
        exact (show Tryz.prog.wantsStandIn t = false by simpa using List.all_eq_true.1 card_stand t hm)⟩)
    card_goes
end Go.Proofs.YtclkdmmgibgamaaGreatDoor.extractBlocks
namespace Go.Proofs.YtclkdmmgibgamaaGreatDoor
theorem extractBlocks_holds : Rows.ExtractBlocksCardSaid := extractBlocks.card_holds
#print axioms extractBlocks_holds
end Go.Proofs.YtclkdmmgibgamaaGreatDoor
