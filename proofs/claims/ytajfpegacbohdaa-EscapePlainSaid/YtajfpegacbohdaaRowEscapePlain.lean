/-
  The statement EscapePlain of the given program: proved for every input, without a condition of ours: the printed walk of the call, and the pure statement about what it computes.
-/
import Derived.Test.YtajfpegacbohdaaRows
import Derived.Test.YtajfpegacbohdaaHaE1
import Derived.Test.YtajfpegacbohdaaRowKit
import Derived.WalkKit
import Derived.ProofKit
import Derived.OpenShut
import Derived.ShutString
import Derived.ChangeOld
import Derived.Below
import Derived.SizedLaws
import Derived.LaidMore
import Derived.Lay
import Derived.SevenTiedAt
import Derived.Stop.Joined
import Derived.HandedShaped
namespace Go.Proofs.Ytajfpegacbohdaa.escapePlain
open Go.ChangeShapes Go.WideShapes Go.ChangeAt Go.RowKit
open Go.ChangeMaps (open_string shut_string)
set_option linter.unusedVariables false
theorem own : ownKnob Try.prog.godebug = none := by kernel_rfl
set_option maxRecDepth 100000 in
theorem lifted (os : Os) (started : os.Started) (H : Type) (enc : TypeId × Value → H) :
    ReturnsInHanded {} Try.checked os 4 .any (Rows.escapePlainSpec.pre6 enc Try.prog Try.f4 Rows.escapePlainRow.domain false) (Rows.escapePlainSpec.post enc Try.prog Try.f4 false true false false) := by
  refine returnsInHanded_of_change_shaped (C := Try.checked) own started (by kernel_rfl) Try.func4
    (ChangeSpec.witness6 (enc := enc) (C := Try.checked) false ⟨#[], #[.int .u8 0, .string ByteArray.empty], []⟩ 8 (by kernel_rfl) (by kernel_rfl) (by kernel_rfl) (by kernel_rfl)) ?_
  intro W base args ds gs before hval0 hW hcnd hsz0 hsh _
  have hsz : (DataW.weightsEach Try.prog (Try.f4.params.toList ++ Rows.escapePlainSpec.plain.varTypes Try.prog) (ds ++ gs)).all (· ≤ reachBytes) = true := hsz0
  have hval : ∀ (j : Nat) t v, Try.f4.params[j]? = some t → args[j]? = some v → Value.okWide Try.prog W .any base t v := hval0
  have hW' := hW
  obtain ⟨p, q, hA0, hV, rfl, hfz, hnd⟩ := hW
  have hA : DataW.TrodAll enc Try.prog W 0 (fun _ => true) true Try.f4.params.toList args.toList ds p := hA0
  rw [Try.params4] at hA hval hsz
  obtain ⟨v0, vs0, d0, ds0, p0, q0, hargs, rfl, rfl, h0, r0⟩ := trodAll_cons hA
  obtain ⟨v1, vs1, d1, ds1, p1, q1, rfl, rfl, rfl, h1, r1⟩ := trodAll_cons r0
  obtain ⟨rfl, rfl, rfl⟩ := trodAll_nil r1
  obtain rfl : args = #[v0, v1] := by cases args; simp_all
  obtain ⟨rfl, rfl⟩ := trodVars_none hV
  obtain ⟨a0, rfl, rfl, rfl, w0⟩ := open_int Try.underlying5 (hval 0 5 v0 rfl rfl) h0
  obtain ⟨a1, rfl, rfl, rfl, y1⟩ := open_string Try.underlying9 (hval 1 9 v1 rfl rfl) h1
  have w1 : a1.size ≤ 140737488351232 := by
    have z := sized_string hsz (j := 1) (t := 9) rfl rfl
    rw [Array.length_toList] at z
    exact z
  clear hA0 hval0 hsz0 hsz
  refine (Hand.EscapePlain_law a0 a1 W w0 w1).mono fun e W' ⟨he, bel⟩ => ?_
  subst he
  exact ⟨_, rfl, _, _, _, [], _, [], hW', trodAll_mk1 (shut_bool Try.underlying4 _), (trodAll_cons_mk (shut_int Try.underlying5 w0) (trodAll_cons_mk (shut_string Try.underlying9 y1) trodAll_mk0)), rfl, bel.frame _, fun h => by cases h⟩
theorem k1 : (Rows.escapePlainRow.wf (OpenSpec.ofChange Rows.escapePlainSpec)) = true := by kernel_rfl
theorem k4 : (Try.f4.params.all (Try.prog.readableRec ·)) = true := by kernel_rfl
theorem k5 : (namedTie Try.prog Rows.escapePlainRow.named Rows.escapePlainSpec.vars) = true := by kernel_rfl
theorem k6 : (Rows.escapePlainRow.stops == []) = true := by kernel_rfl
theorem k8 : (Rows.escapePlainRow.knobs == []) = true := by kernel_rfl
theorem k10 : (Rows.escapePlainRow.inPlace == Try.prog.inPlace 4) = true := by kernel_rfl
theorem k11 : (Rows.escapePlainRow.unfollowed == Try.prog.unfollowed 4) = true := by kernel_rfl
theorem k12 : (Rows.escapePlainRow.recurses == Try.prog.recurses 4) = true := by kernel_rfl
theorem k13 : (Rows.escapePlainRow.named == Try.prog.varsNamed 4) = true := by kernel_rfl
theorem k14 : (Rows.escapePlainRow.maps == (Try.f4.params.toList ++ Rows.escapePlainSpec.plain.varTypes Try.prog).any (Try.prog.mapsRec ·)) = true := by kernel_rfl
theorem k15 : (Rows.escapePlainRow.ifaces == (Try.f4.params.toList ++ Rows.escapePlainSpec.plain.varTypes Try.prog).any (Try.prog.ifacesRec ·)) = true := by kernel_rfl
theorem k16 : (Rows.escapePlainRow.mapsOut == Try.prog.mapsAmong Try.f4.resultTypes.toList) = true := by kernel_rfl
theorem k17 : (Rows.escapePlainRow.loops == (Try.f4.params.toList ++ Rows.escapePlainSpec.plain.varTypes Try.prog).any (Try.prog.loopsFrom ·)) = true := by kernel_rfl
theorem k18 : (Rows.escapePlainRow.wideKeys == (Try.f4.params.toList ++ Rows.escapePlainSpec.plain.varTypes Try.prog ++ Try.f4.resultTypes.toList).any (Try.prog.wideKeysFrom ·)) = true := by kernel_rfl
theorem k19 : (Rows.escapePlainSpec.vars.all (Try.prog.varReadable ·)) = true := by kernel_rfl
theorem k20 : (Try.f4.resultTypes.all (fun t => Try.prog.readableRec t && decide (t < Try.prog.types.size))) = true := by kernel_rfl
theorem k21 : (Rows.escapePlainRow.ifacesOut == Try.f4.resultTypes.toList.any (Try.prog.ifacesRec ·)) = true := by kernel_rfl
theorem k22 : (Rows.escapePlainRow.loopsOut == Try.f4.resultTypes.toList.any (Try.prog.loopsFrom ·)) = true := by kernel_rfl
theorem k24 : (Rows.escapePlainRow.shortTexts.isNone) = true := by kernel_rfl
theorem k30 : (Rows.escapePlainRow.pinned == Rows.escapePlainRow.pinnedBy) = true := by kernel_rfl
theorem k31 : (Rows.escapePlainRow.veiled == (Try.f4.params.toList ++ Rows.escapePlainSpec.plain.varTypes Try.prog ++ Try.f4.resultTypes.toList).any (Try.prog.veiledRec ·)) = true := by kernel_rfl
theorem k32 : (Rows.escapePlainRow.veiledFits Try.prog Try.f4.params.toList (Try.f4.params.toList ++ Rows.escapePlainSpec.plain.varTypes Try.prog ++ Try.f4.resultTypes.toList)) = true := by kernel_rfl
theorem named_is : Try.prog.funcNamed Rows.escapePlainRow.func = some 4 := by kernel_rfl
theorem inst_is : Try.f4.isInstance Try.prog Rows.escapePlainRow.origin Rows.escapePlainRow.targs := of_decide_eq_true (by kernel_rfl)
theorem over : Rows.EscapePlainSaid :=
  OpenClaim.holds_of_wide 4 Try.f4 rfl rfl rfl rfl rfl rfl rfl ⟨rfl, rfl, rfl, rfl, rfl⟩ rfl rfl rfl rfl rfl named_is Try.func4
    (RowKit.joined k1 k4 k5 k6 k8 k10 k11 k12 k13 k14 k15 k16 k17 k18 k19 k20 k21 k22 rfl k24 rfl rfl rfl rfl k30 k31 k32)
    inst_is (by unfold Func.isWrapper; first | (rw [if_pos (by decide +kernel)]; kernel_rfl) | (rw [if_neg (by decide +kernel)]; exact ⟨rfl, rfl⟩))
    (fun os started H enc _ => lifted os started H enc)
end Go.Proofs.Ytajfpegacbohdaa.escapePlain
namespace Go.Proofs.Ytajfpegacbohdaa
theorem escapePlain_holds : Rows.EscapePlainSaid := escapePlain.over
#print axioms escapePlain_holds
end Go.Proofs.Ytajfpegacbohdaa
