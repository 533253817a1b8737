/-
  The statement RoundsStay of the given program: proved for every input, without a condition of ours: the printed walk of the call, and the pure statement about what it computes.
-/
import Derived.Test.YtclkdmmgibgamaaGreatDoorRows
import Derived.Test.YtclkdmmgibgamaaGreatDoorTie
import Derived.Test.YtclkdmmgibgamaaGreatDoorCards
import Derived.Test.YtclkdmmgibgamaaGreatDoorZvRoundsStayb
import Derived.WalkKit
import Derived.ProofKit
import Derived.OpenShut
import Derived.ShutString
import Derived.ChangeOld
import Derived.Below
import Derived.SizedLaws
import Derived.LaidMore
import Derived.Lay
import Derived.SevenTiedAt
import Derived.Stop.Joined
namespace Go.Proofs.YtclkdmmgibgamaaGreatDoor.roundsStay
open Go.ChangeShapes Go.WideShapes Go.ChangeAt Go.RowKit
open Go.ChangeMaps (open_string shut_string)
set_option linter.unusedVariables false
theorem own : ownKnob Tryz.prog.godebug = none := by kernel_rfl
theorem laidOut : laidOutB Tryz.prog = true := by kernel_rfl
def IsRow (k : IntKind) (w : World) (a : Option Addr) (len cap : Nat) (zs : List Int) : Prop :=
  (a = none ∧ len = 0 ∧ cap = 0 ∧ zs = []) ∨
  ∃ x, a = some x ∧ len ≤ cap ∧ cap ≤ maxLen ∧ zs.length = cap ∧ (∀ i, i < zs.length → w.cell? (x.add i) = some (.int k (zs.getD i 0))) ∧ ∀ n ∈ zs, (Lit.int k n).wf = true
set_option maxRecDepth 100000 in
theorem lifted (os : Os) (started : os.Started) (H : Type) (enc : TypeId × Value → H) :
    ReturnsInHanded {} Tryz.checked os 9 .any (fun w args => (Rows.roundsStaySpec.pre enc Tryz.prog Tryz.f9 Rows.roundsStayRow.domain false w args ∧ laidMetH Tryz.prog Rows.roundsStayRow.laid w) ∧ sizedMet enc Tryz.prog Tryz.f9 (OpenSpec.ofChange Rows.roundsStaySpec) false w args)
      (Rows.roundsStaySpec.post enc Tryz.prog Tryz.f9 false true false false) := by
  refine RowKit.handed_and_shaped (C := Tryz.checked) (X := fun w _ => laidMetH Tryz.prog Rows.roundsStayRow.laid w) (fun _ _ _ hh h => h.of_heap hh) own started (by kernel_rfl) Tryz.func9
    (ChangeSpec.witness_shaped (enc := enc) (C := Tryz.checked) (os := os) (X := fun w _ => laidMetH Tryz.prog Rows.roundsStayRow.laid w) false (World.laidAll Tryz.prog os Rows.roundsStayRow.laid) #[.int .u8 0, .slice none 0 0, .int .u8 0] 8 (World.laidAll_os _ _ _)
      (World.shaped_of_ZipB (by kernel_rfl) (by kernel_rfl)) (by kernel_rfl) (by kernel_rfl) (by kernel_rfl)
      (by rw [MakeChecks.laidMetH_plain _ _ _ (by kernel_rfl)]; exact laidMet_laidAll _ (by kernel_rfl) (by kernel_rfl))) ?_
  intro W base args ds gs before hval0 hW hsz0 hlaid hsh
  have hsz : (DataW.weightsEach Tryz.prog (Tryz.f9.params.toList ++ Rows.roundsStaySpec.plain.varTypes Tryz.prog) (ds ++ gs)).all (· ≤ reachBytes) = true := hsz0
  have hval : ∀ (j : Nat) t v, Tryz.f9.params[j]? = some t → args[j]? = some v → Value.okWide Tryz.prog W .any base t v := hval0
  have hW' := hW
  obtain ⟨p, q, hA0, hV, rfl, hfz, hnd⟩ := hW
  have hA : DataW.TrodAll enc Tryz.prog W 0 (fun _ => true) true Tryz.f9.params.toList args.toList ds p := hA0
  rw [Tryz.params9] at hA hval hsz
  obtain ⟨v0, vs0, d0, ds0, p0, q0, hargs, rfl, rfl, h0, r0⟩ := trodAll_cons hA
  obtain ⟨v1, vs1, d1, ds1, p1, q1, rfl, rfl, rfl, h1, r1⟩ := trodAll_cons r0
  obtain ⟨v2, vs2, d2, ds2, p2, q2, rfl, rfl, rfl, h2, r2⟩ := trodAll_cons r1
  obtain ⟨rfl, rfl, rfl⟩ := trodAll_nil r2
  obtain rfl : args = #[v0, v1, v2] := by cases args; simp_all
  obtain ⟨rfl, rfl⟩ := trodVars_none hV
  obtain ⟨a0, rfl, rfl, rfl, w0⟩ := open_int Tryz.underlying5 (hval 0 5 v0 rfl rfl) h0
  obtain ⟨a1, len1, cap1, rfl⟩ := okWide_slice Tryz.underlying22 (hval 1 22 v1 rfl rfl)
  have k1 := h1
  have lt1 : ∀ x ∈ p1, x.block < W.heap.size := by obtain ⟨m, hm⟩ := k1; exact DataW.trod_lt m _ _ _ hm
  obtain ⟨z1, w1⟩ : ∃ zs, IsRow .u8 W a1 len1 cap1 zs := by
    obtain ⟨fuel, hf⟩ := h1
    rcases open_ints Tryz.underlying22 Tryz.underlying5 (by kernel_rfl) hf with ⟨hcs, _⟩ | ⟨x, l, c, zs, hcs, _, hl, hm, hz, _, hcell, hwz⟩
    · simp [Value.cells] at hcs
      obtain ⟨rfl, rfl, rfl⟩ := hcs
      exact ⟨[], .inl ⟨rfl, rfl, rfl, rfl⟩⟩
    · simp [Value.cells] at hcs
      obtain ⟨rfl, rfl, rfl⟩ := hcs
      exact ⟨zs, .inr ⟨_, rfl, hl, hm, by simpa using hz, hcell, hwz⟩⟩
  have y1 : len1 * 1 ≤ 140737488351232 := Go.Proofs.YtclkdmmgibgamaaGreatDoorW.PrintWords.sized_ints hsz (j := 1) (t := 22) rfl rfl Tryz.underlying22 Tryz.underlying5 (by kernel_rfl) (by kernel_rfl) h1
  obtain ⟨a2, rfl, rfl, rfl, w2⟩ := open_int Tryz.underlying5 (hval 2 5 v2 rfl rfl) h2
  clear hA0 hval0 hsz0 hsz
  refine (Hand.RoundsStay_law a0 a1 len1 cap1 z1 a2 W w0 w1 y1 w2 (RowKit.glob_of_laid hsh hlaid (by kernel_rfl) (List.mem_of_getElem? (i := 5) rfl))).mono fun e W' ⟨he, bel⟩ => ?_
  subst he
  exact ⟨_, rfl, _, _, _, [], _, [], hW', trodAll_mk1 (shut_bool Tryz.underlying4 _), (trodAll_cons_mk (shut_int Tryz.underlying5 w0) (trodAll_cons_mk (Below.trod laidOut (by kernel_rfl) (of_decide_eq_true (by kernel_rfl)) k1 bel lt1) (trodAll_cons_mk (shut_int Tryz.underlying5 w2) trodAll_mk0))), rfl, bel.frame _, fun h => by cases h⟩
theorem k1 : (Rows.roundsStayRow.wf (OpenSpec.ofChange Rows.roundsStaySpec)) = true := by kernel_rfl
theorem k4 : (Tryz.f9.params.all (Tryz.prog.readableRec ·)) = true := by kernel_rfl
theorem k5 : (namedTie Tryz.prog Rows.roundsStayRow.named Rows.roundsStaySpec.vars) = true := by kernel_rfl
theorem k6 : (Rows.roundsStayRow.stops == []) = true := by kernel_rfl
theorem k8 : (Rows.roundsStayRow.knobs == []) = true := by kernel_rfl
theorem k10 : (Rows.roundsStayRow.inPlace == Tryz.prog.inPlace 9) = true := by kernel_rfl
theorem k11 : (Rows.roundsStayRow.unfollowed == Tryz.prog.unfollowed 9) = true := by kernel_rfl
theorem k12 : (Rows.roundsStayRow.recurses == Tryz.prog.recurses 9) = true := by kernel_rfl
theorem k13 : (Rows.roundsStayRow.named == Tryz.prog.varsNamed 9) = true := by kernel_rfl
theorem k14 : (Rows.roundsStayRow.maps == (Tryz.f9.params.toList ++ Rows.roundsStaySpec.plain.varTypes Tryz.prog).any (Tryz.prog.mapsRec ·)) = true := by kernel_rfl
theorem k15 : (Rows.roundsStayRow.ifaces == (Tryz.f9.params.toList ++ Rows.roundsStaySpec.plain.varTypes Tryz.prog).any (Tryz.prog.ifacesRec ·)) = true := by kernel_rfl
theorem k16 : (Rows.roundsStayRow.mapsOut == Tryz.prog.mapsAmong Tryz.f9.resultTypes.toList) = true := by kernel_rfl
theorem k17 : (Rows.roundsStayRow.loops == (Tryz.f9.params.toList ++ Rows.roundsStaySpec.plain.varTypes Tryz.prog).any (Tryz.prog.loopsFrom ·)) = true := by kernel_rfl
theorem k18 : (Rows.roundsStayRow.wideKeys == (Tryz.f9.params.toList ++ Rows.roundsStaySpec.plain.varTypes Tryz.prog ++ Tryz.f9.resultTypes.toList).any (Tryz.prog.wideKeysFrom ·)) = true := by kernel_rfl
theorem k19 : (Rows.roundsStaySpec.vars.all (Tryz.prog.varReadable ·)) = true := by kernel_rfl
theorem k20 : (Tryz.f9.resultTypes.all (fun t => Tryz.prog.readableRec t && decide (t < Tryz.prog.types.size))) = true := by kernel_rfl
theorem k21 : (Rows.roundsStayRow.ifacesOut == Tryz.f9.resultTypes.toList.any (Tryz.prog.ifacesRec ·)) = true := by kernel_rfl
theorem k22 : (Rows.roundsStayRow.loopsOut == Tryz.f9.resultTypes.toList.any (Tryz.prog.loopsFrom ·)) = true := by kernel_rfl
theorem k24 : (Rows.roundsStayRow.shortTexts.isNone) = true := by kernel_rfl
theorem k30 : (Rows.roundsStayRow.pinned == Rows.roundsStayRow.pinnedBy) = true := by kernel_rfl
theorem k31 : (Rows.roundsStayRow.veiled == (Tryz.f9.params.toList ++ Rows.roundsStaySpec.plain.varTypes Tryz.prog ++ Tryz.f9.resultTypes.toList).any (Tryz.prog.veiledRec ·)) = true := by kernel_rfl
theorem k32 : (Rows.roundsStayRow.veiledFits Tryz.prog Tryz.f9.params.toList (Tryz.f9.params.toList ++ Rows.roundsStaySpec.plain.varTypes Tryz.prog ++ Tryz.f9.resultTypes.toList)) = true := by kernel_rfl
theorem named_is : Tryz.prog.funcNamed Rows.roundsStayRow.func = some 9 := by kernel_rfl
theorem inst_is : Tryz.f9.isInstance Tryz.prog Rows.roundsStayRow.origin Rows.roundsStayRow.targs := of_decide_eq_true (by kernel_rfl)
theorem over : Rows.RoundsStaySaid :=
  OpenClaim.holds_of_wide 9 Tryz.f9 rfl rfl rfl rfl rfl rfl rfl ⟨rfl, rfl, rfl, rfl, rfl⟩ rfl rfl rfl rfl rfl named_is Tryz.func9
    (RowKit.joined k1 k4 k5 k6 k8 k10 k11 k12 k13 k14 k15 k16 k17 k18 k19 k20 k21 k22 rfl k24 rfl rfl rfl rfl k30 k31 k32)
    inst_is (by unfold Func.isWrapper; first | (rw [if_pos (by decide +kernel)]; kernel_rfl) | (rw [if_neg (by decide +kernel)]; exact ⟨rfl, rfl⟩))
    (fun os started H enc _ => lifted os started H enc)
theorem card_wf : Rows.roundsStayRow.wfByText (OpenSpec.ofChange Rows.roundsStaySpec) = true := by kernel_rfl
theorem card_main : Tryz.prog.mainIs = some (Rows.roundsStayCard.stood.harness.1, Rows.roundsStayCard.stood.harness.2.toList) := RowKit.main_is
theorem card_goes : false = Rows.roundsStayRow.goesBy Tryz.prog := by kernel_rfl
theorem card_looks : true = Tryz.prog.looks [] := RowKit.looks_is.symm
theorem card_stand : ([5, 22, 5].all fun u => !Tryz.prog.wantsStandIn u) = true := by kernel_rfl
theorem card_holds : Rows.RoundsStayCardSaid :=
  Claim7.holds_tied_plain_at .later [] [.data, .data, .data, .data, .sentinel, .sentinel, .pinned] true Rows.roundsStayCard.stood.harness true over (fun _ h => by cases h) card_wf (fun _ h => by cases h) roundsStay_row_tie rfl ⟨rfl, rfl⟩ card_main rfl
    (fun f fn hf hfn => by
      obtain rfl : f = 9 := Option.some.inj (named_is.symm.trans hf) |>.symm
      obtain rfl : fn = Tryz.f9 := (Option.some.inj (Tryz.func9.symm.trans hfn)).symm
      exact ⟨card_looks, fun j t ht => by
        rw [Tryz.params9] at ht
        have hm : t ∈ [5, 22, 5] := by simpa using Array.mem_of_getElem? ht
        exact (show Tryz.prog.wantsStandIn t = false by simpa using List.all_eq_true.1 card_stand t hm)⟩)
    card_goes
end Go.Proofs.YtclkdmmgibgamaaGreatDoor.roundsStay
namespace Go.Proofs.YtclkdmmgibgamaaGreatDoor
theorem roundsStay_holds : Rows.RoundsStayCardSaid := roundsStay.card_holds
#print axioms roundsStay_holds
end Go.Proofs.YtclkdmmgibgamaaGreatDoor
