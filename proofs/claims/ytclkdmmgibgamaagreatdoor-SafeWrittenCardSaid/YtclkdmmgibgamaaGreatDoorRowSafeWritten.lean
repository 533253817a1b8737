/-
  The statement SafeWritten of the given program: proved for every input, without a condition of ours: the printed walk of the call, and the pure statement about what it computes.
-/
import Derived.Test.YtclkdmmgibgamaaGreatDoorRows
import Derived.Test.YtclkdmmgibgamaaGreatDoorTie
import Derived.Test.YtclkdmmgibgamaaGreatDoorCards
import Derived.Test.YtclkdmmgibgamaaGreatDoorZvSafeWrittena
import Derived.WalkKit
import Derived.ProofKit
import Derived.OpenShut
import Derived.ShutString
import Derived.ChangeOld
import Derived.Below
import Derived.SizedLaws
import Derived.LaidMore
import Derived.Lay
import Derived.SevenTiedAt
import Derived.Stop.Joined
namespace Go.Proofs.YtclkdmmgibgamaaGreatDoor.safeWritten
open Go.ChangeShapes Go.WideShapes Go.ChangeAt Go.RowKit
open Go.ChangeMaps (open_string shut_string)
set_option linter.unusedVariables false
theorem own : ownKnob Tryz.prog.godebug = none := by kernel_rfl
theorem laidOut : laidOutB Tryz.prog = true := by kernel_rfl
def IsRow (k : IntKind) (w : World) (a : Option Addr) (len cap : Nat) (zs : List Int) : Prop :=
  (a = none ∧ len = 0 ∧ cap = 0 ∧ zs = []) ∨
  ∃ x, a = some x ∧ len ≤ cap ∧ cap ≤ maxLen ∧ zs.length = cap ∧ (∀ i, i < zs.length → w.cell? (x.add i) = some (.int k (zs.getD i 0))) ∧ ∀ n ∈ zs, (Lit.int k n).wf = true
set_option maxRecDepth 100000 in
theorem lifted (os : Os) (started : os.Started) (H : Type) (enc : TypeId × Value → H) :
    ReturnsInHanded {} Tryz.checked os 8 .any (fun w args => (Rows.safeWrittenSpec.pre enc Tryz.prog Tryz.f8 Rows.safeWrittenRow.domain false w args ∧ laidMetH Tryz.prog Rows.safeWrittenRow.laid w) ∧ sizedMet enc Tryz.prog Tryz.f8 (OpenSpec.ofChange Rows.safeWrittenSpec) false w args)
      (Rows.safeWrittenSpec.post enc Tryz.prog Tryz.f8 false true false false) := by
  refine RowKit.handed_and_shaped (C := Tryz.checked) (X := fun w _ => laidMetH Tryz.prog Rows.safeWrittenRow.laid w) (fun _ _ _ hh h => h.of_heap hh) own started (by kernel_rfl) Tryz.func8
    (ChangeSpec.witness_shaped (enc := enc) (C := Tryz.checked) (os := os) (X := fun w _ => laidMetH Tryz.prog Rows.safeWrittenRow.laid w) false (World.laidAll Tryz.prog os Rows.safeWrittenRow.laid) #[.int .u8 0, .string ByteArray.empty, .slice none 0 0] 8 (World.laidAll_os _ _ _)
      (World.shaped_of_ZipB (by kernel_rfl) (by kernel_rfl)) (by kernel_rfl) (by kernel_rfl) (by kernel_rfl)
      (by rw [MakeChecks.laidMetH_plain _ _ _ (by kernel_rfl)]; exact laidMet_laidAll _ (by kernel_rfl) (by kernel_rfl))) ?_
  intro W base args ds gs before hval0 hW hsz0 hlaid hsh
  have hsz : (DataW.weightsEach Tryz.prog (Tryz.f8.params.toList ++ Rows.safeWrittenSpec.plain.varTypes Tryz.prog) (ds ++ gs)).all (· ≤ reachBytes) = true := hsz0
  have hval : ∀ (j : Nat) t v, Tryz.f8.params[j]? = some t → args[j]? = some v → Value.okWide Tryz.prog W .any base t v := hval0
  have hW' := hW
  obtain ⟨p, q, hA0, hV, rfl, hfz, hnd⟩ := hW
  have hA : DataW.TrodAll enc Tryz.prog W 0 (fun _ => true) true Tryz.f8.params.toList args.toList ds p := hA0
  rw [Tryz.params8] at hA hval hsz
  obtain ⟨v0, vs0, d0, ds0, p0, q0, hargs, rfl, rfl, h0, r0⟩ := trodAll_cons hA
  obtain ⟨v1, vs1, d1, ds1, p1, q1, rfl, rfl, rfl, h1, r1⟩ := trodAll_cons r0
  obtain ⟨v2, vs2, d2, ds2, p2, q2, rfl, rfl, rfl, h2, r2⟩ := trodAll_cons r1
  obtain ⟨rfl, rfl, rfl⟩ := trodAll_nil r2
  obtain rfl : args = #[v0, v1, v2] := by cases args; simp_all
  obtain ⟨rfl, rfl⟩ := trodVars_none hV
  obtain ⟨a0, rfl, rfl, rfl, w0⟩ := open_int Tryz.underlying5 (hval 0 5 v0 rfl rfl) h0
  obtain ⟨a1, rfl, rfl, rfl, y1⟩ := open_string Tryz.underlying9 (hval 1 9 v1 rfl rfl) h1
  have w1 : a1.size ≤ 140737488351232 := by
    have z := sized_string hsz (j := 1) (t := 9) rfl rfl
    rw [Array.length_toList] at z
    exact z
  obtain ⟨a2, len2, cap2, rfl⟩ := okWide_slice Tryz.underlying22 (hval 2 22 v2 rfl rfl)
  have k2 := h2
  have lt2 : ∀ x ∈ p2, x.block < W.heap.size := by obtain ⟨m, hm⟩ := k2; exact DataW.trod_lt m _ _ _ hm
  obtain ⟨z2, w2⟩ : ∃ zs, IsRow .u8 W a2 len2 cap2 zs := by
    obtain ⟨fuel, hf⟩ := h2
    rcases open_ints Tryz.underlying22 Tryz.underlying5 (by kernel_rfl) hf with ⟨hcs, _⟩ | ⟨x, l, c, zs, hcs, _, hl, hm, hz, _, hcell, hwz⟩
    · simp [Value.cells] at hcs
      obtain ⟨rfl, rfl, rfl⟩ := hcs
      exact ⟨[], .inl ⟨rfl, rfl, rfl, rfl⟩⟩
    · simp [Value.cells] at hcs
      obtain ⟨rfl, rfl, rfl⟩ := hcs
      exact ⟨zs, .inr ⟨_, rfl, hl, hm, by simpa using hz, hcell, hwz⟩⟩
  have y2 : len2 * 1 ≤ 140737488351232 := Go.Proofs.YtclkdmmgibgamaaGreatDoorW.PrintWords.sized_ints hsz (j := 2) (t := 22) rfl rfl Tryz.underlying22 Tryz.underlying5 (by kernel_rfl) (by kernel_rfl) h2
  clear hA0 hval0 hsz0 hsz
  refine (Hand.SafeWritten_law a0 a1 a2 len2 cap2 z2 W w0 w1 w2 y2 (RowKit.glob_of_laid hsh hlaid (by kernel_rfl) (List.mem_of_getElem? (i := 5) rfl))).mono fun e W' ⟨he, bel⟩ => ?_
  subst he
  exact ⟨_, rfl, _, _, _, [], _, [], hW', trodAll_mk1 (shut_bool Tryz.underlying4 _), (trodAll_cons_mk (shut_int Tryz.underlying5 w0) (trodAll_cons_mk (shut_string Tryz.underlying9 y1) (trodAll_cons_mk (Below.trod laidOut (by kernel_rfl) (of_decide_eq_true (by kernel_rfl)) k2 bel lt2) trodAll_mk0))), rfl, bel.frame _, fun h => by cases h⟩
theorem k1 : (Rows.safeWrittenRow.wf (OpenSpec.ofChange Rows.safeWrittenSpec)) = true := by kernel_rfl
theorem k4 : (Tryz.f8.params.all (Tryz.prog.readableRec ·)) = true := by kernel_rfl
theorem k5 : (namedTie Tryz.prog Rows.safeWrittenRow.named Rows.safeWrittenSpec.vars) = true := by kernel_rfl
theorem k6 : (Rows.safeWrittenRow.stops == []) = true := by kernel_rfl
theorem k8 : (Rows.safeWrittenRow.knobs == []) = true := by kernel_rfl
theorem k10 : (Rows.safeWrittenRow.inPlace == Tryz.prog.inPlace 8) = true := by kernel_rfl
theorem k11 : (Rows.safeWrittenRow.unfollowed == Tryz.prog.unfollowed 8) = true := by kernel_rfl
theorem k12 : (Rows.safeWrittenRow.recurses == Tryz.prog.recurses 8) = true := by kernel_rfl
theorem k13 : (Rows.safeWrittenRow.named == Tryz.prog.varsNamed 8) = true := by kernel_rfl
theorem k14 : (Rows.safeWrittenRow.maps == (Tryz.f8.params.toList ++ Rows.safeWrittenSpec.plain.varTypes Tryz.prog).any (Tryz.prog.mapsRec ·)) = true := by kernel_rfl
theorem k15 : (Rows.safeWrittenRow.ifaces == (Tryz.f8.params.toList ++ Rows.safeWrittenSpec.plain.varTypes Tryz.prog).any (Tryz.prog.ifacesRec ·)) = true := by kernel_rfl
theorem k16 : (Rows.safeWrittenRow.mapsOut == Tryz.prog.mapsAmong Tryz.f8.resultTypes.toList) = true := by kernel_rfl
theorem k17 : (Rows.safeWrittenRow.loops == (Tryz.f8.params.toList ++ Rows.safeWrittenSpec.plain.varTypes Tryz.prog).any (Tryz.prog.loopsFrom ·)) = true := by kernel_rfl
theorem k18 : (Rows.safeWrittenRow.wideKeys == (Tryz.f8.params.toList ++ Rows.safeWrittenSpec.plain.varTypes Tryz.prog ++ Tryz.f8.resultTypes.toList).any (Tryz.prog.wideKeysFrom ·)) = true := by kernel_rfl
theorem k19 : (Rows.safeWrittenSpec.vars.all (Tryz.prog.varReadable ·)) = true := by kernel_rfl
theorem k20 : (Tryz.f8.resultTypes.all (fun t => Tryz.prog.readableRec t && decide (t < Tryz.prog.types.size))) = true := by kernel_rfl
theorem k21 : (Rows.safeWrittenRow.ifacesOut == Tryz.f8.resultTypes.toList.any (Tryz.prog.ifacesRec ·)) = true := by kernel_rfl
theorem k22 : (Rows.safeWrittenRow.loopsOut == Tryz.f8.resultTypes.toList.any (Tryz.prog.loopsFrom ·)) = true := by kernel_rfl
theorem k24 : (Rows.safeWrittenRow.shortTexts.isNone) = true := by kernel_rfl
theorem k30 : (Rows.safeWrittenRow.pinned == Rows.safeWrittenRow.pinnedBy) = true := by kernel_rfl
theorem k31 : (Rows.safeWrittenRow.veiled == (Tryz.f8.params.toList ++ Rows.safeWrittenSpec.plain.varTypes Tryz.prog ++ Tryz.f8.resultTypes.toList).any (Tryz.prog.veiledRec ·)) = true := by kernel_rfl
theorem k32 : (Rows.safeWrittenRow.veiledFits Tryz.prog Tryz.f8.params.toList (Tryz.f8.params.toList ++ Rows.safeWrittenSpec.plain.varTypes Tryz.prog ++ Tryz.f8.resultTypes.toList)) = true := by kernel_rfl
theorem named_is : Tryz.prog.funcNamed Rows.safeWrittenRow.func = some 8 := by kernel_rfl
theorem inst_is : Tryz.f8.isInstance Tryz.prog Rows.safeWrittenRow.origin Rows.safeWrittenRow.targs := of_decide_eq_true (by kernel_rfl)
theorem over : Rows.SafeWrittenSaid :=
  OpenClaim.holds_of_wide 8 Tryz.f8 rfl rfl rfl rfl rfl rfl rfl ⟨rfl, rfl, rfl, rfl, rfl⟩ rfl rfl rfl rfl rfl named_is Tryz.func8
    (RowKit.joined k1 k4 k5 k6 k8 k10 k11 k12 k13 k14 k15 k16 k17 k18 k19 k20 k21 k22 rfl k24 rfl rfl rfl rfl k30 k31 k32)
    inst_is (by unfold Func.isWrapper; first | (rw [if_pos (by decide +kernel)]; kernel_rfl) | (rw [if_neg (by decide +kernel)]; exact ⟨rfl, rfl⟩))
    (fun os started H enc _ => lifted os started H enc)
theorem card_wf : Rows.safeWrittenRow.wfByText (OpenSpec.ofChange Rows.safeWrittenSpec) = true := by kernel_rfl
theorem card_main : Tryz.prog.mainIs = some (Rows.safeWrittenCard.stood.harness.1, Rows.safeWrittenCard.stood.harness.2.toList) := RowKit.main_is
theorem card_goes : false = Rows.safeWrittenRow.goesBy Tryz.prog := by kernel_rfl
theorem card_looks : true = Tryz.prog.looks [] := RowKit.looks_is.symm
theorem card_stand : ([5, 9, 22].all fun u => !Tryz.prog.wantsStandIn u) = true := by kernel_rfl
theorem card_holds : Rows.SafeWrittenCardSaid :=
  Claim7.holds_tied_plain_at .later [] [.data, .data, .data, .data, .sentinel, .sentinel, .pinned] true Rows.safeWrittenCard.stood.harness true over (fun _ h => by cases h) card_wf (fun _ h => by cases h) safeWritten_row_tie rfl ⟨rfl, rfl⟩ card_main rfl
    (fun f fn hf hfn => by
      obtain rfl : f = 8 := Option.some.inj (named_is.symm.trans hf) |>.symm
      obtain rfl : fn = Tryz.f8 := (Option.some.inj (Tryz.func8.symm.trans hfn)).symm
      exact ⟨card_looks, fun j t ht => by
        rw [Tryz.params8] at ht
        have hm : t ∈ [5, 9, 22] := by simpa using Array.mem_of_getElem? ht
        exact (show Tryz.prog.wantsStandIn t = false by simpa using List.all_eq_true.1 card_stand t hm)⟩)
    card_goes
end Go.Proofs.YtclkdmmgibgamaaGreatDoor.safeWritten
namespace Go.Proofs.YtclkdmmgibgamaaGreatDoor
theorem safeWritten_holds : Rows.SafeWrittenCardSaid := safeWritten.card_holds
#print axioms safeWritten_holds
end Go.Proofs.YtclkdmmgibgamaaGreatDoor
