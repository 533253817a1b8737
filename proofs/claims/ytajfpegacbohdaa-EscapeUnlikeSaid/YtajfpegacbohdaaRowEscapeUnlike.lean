/-
  The statement EscapeUnlike of the given program: proved for every input, without a condition of ours: the printed walk of the call, and the pure statement about what it computes.
-/
import Derived.Test.YtajfpegacbohdaaRows
import Derived.Test.YtajfpegacbohdaaHaE3
import Derived.Test.YtajfpegacbohdaaRowKit
import Derived.WalkKit
import Derived.ProofKit
import Derived.OpenShut
import Derived.ShutString
import Derived.ChangeOld
import Derived.Below
import Derived.SizedLaws
import Derived.LaidMore
import Derived.Lay
import Derived.SevenTiedAt
import Derived.Stop.Joined
import Derived.HandedShaped
namespace Go.Proofs.Ytajfpegacbohdaa.escapeUnlike
open Go.ChangeShapes Go.WideShapes Go.ChangeAt Go.RowKit
open Go.ChangeMaps (open_string shut_string)
set_option linter.unusedVariables false
theorem own : ownKnob Try.prog.godebug = none := by kernel_rfl
set_option maxRecDepth 100000 in
theorem lifted (os : Os) (started : os.Started) (H : Type) (enc : TypeId × Value → H) :
    ReturnsInHanded {} Try.checked os 6 .any (Rows.escapeUnlikeSpec.pre6 enc Try.prog Try.f6 Rows.escapeUnlikeRow.domain false) (Rows.escapeUnlikeSpec.post enc Try.prog Try.f6 false true false false) := by
  refine returnsInHanded_of_change_shaped (C := Try.checked) own started (by kernel_rfl) Try.func6
    (ChangeSpec.witness6 (enc := enc) (C := Try.checked) false ⟨#[], #[.int .u8 0, .string ByteArray.empty, .string ByteArray.empty], []⟩ 8 (by kernel_rfl) (by kernel_rfl) (by kernel_rfl) (by kernel_rfl)) ?_
  intro W base args ds gs before hval0 hW hcnd hsz0 hsh _
  have hsz : (DataW.weightsEach Try.prog (Try.f6.params.toList ++ Rows.escapeUnlikeSpec.plain.varTypes Try.prog) (ds ++ gs)).all (· ≤ reachBytes) = true := hsz0
  have hval : ∀ (j : Nat) t v, Try.f6.params[j]? = some t → args[j]? = some v → Value.okWide Try.prog W .any base t v := hval0
  have hW' := hW
  obtain ⟨p, q, hA0, hV, rfl, hfz, hnd⟩ := hW
  have hA : DataW.TrodAll enc Try.prog W 0 (fun _ => true) true Try.f6.params.toList args.toList ds p := hA0
  rw [Try.params6] at hA hval hsz
  obtain ⟨v0, vs0, d0, ds0, p0, q0, hargs, rfl, rfl, h0, r0⟩ := trodAll_cons hA
  obtain ⟨v1, vs1, d1, ds1, p1, q1, rfl, rfl, rfl, h1, r1⟩ := trodAll_cons r0
  obtain ⟨v2, vs2, d2, ds2, p2, q2, rfl, rfl, rfl, h2, r2⟩ := trodAll_cons r1
  obtain ⟨rfl, rfl, rfl⟩ := trodAll_nil r2
  obtain rfl : args = #[v0, v1, v2] := by cases args; simp_all
  obtain ⟨rfl, rfl⟩ := trodVars_none hV
  obtain ⟨a0, rfl, rfl, rfl, w0⟩ := open_int Try.underlying5 (hval 0 5 v0 rfl rfl) h0
  obtain ⟨a1, rfl, rfl, rfl, y1⟩ := open_string Try.underlying9 (hval 1 9 v1 rfl rfl) h1
  have w1 : a1.size ≤ 140737488351232 := by
    have z := sized_string hsz (j := 1) (t := 9) rfl rfl
    rw [Array.length_toList] at z
    exact z
  obtain ⟨a2, rfl, rfl, rfl, y2⟩ := open_string Try.underlying9 (hval 2 9 v2 rfl rfl) h2
  have w2 : a2.size ≤ 140737488351232 := by
    have z := sized_string hsz (j := 2) (t := 9) rfl rfl
    rw [Array.length_toList] at z
    exact z
  clear hA0 hval0 hsz0 hsz
  refine (Hand.EscapeUnlike_law a0 a1 a2 W w0 w1 w2).mono fun e W' ⟨he, bel⟩ => ?_
  subst he
  exact ⟨_, rfl, _, _, _, [], _, [], hW', trodAll_mk1 (shut_bool Try.underlying4 _), (trodAll_cons_mk (shut_int Try.underlying5 w0) (trodAll_cons_mk (shut_string Try.underlying9 y1) (trodAll_cons_mk (shut_string Try.underlying9 y2) trodAll_mk0))), rfl, bel.frame _, fun h => by cases h⟩
theorem k1 : (Rows.escapeUnlikeRow.wf (OpenSpec.ofChange Rows.escapeUnlikeSpec)) = true := by kernel_rfl
theorem k4 : (Try.f6.params.all (Try.prog.readableRec ·)) = true := by kernel_rfl
theorem k5 : (namedTie Try.prog Rows.escapeUnlikeRow.named Rows.escapeUnlikeSpec.vars) = true := by kernel_rfl
theorem k6 : (Rows.escapeUnlikeRow.stops == []) = true := by kernel_rfl
theorem k8 : (Rows.escapeUnlikeRow.knobs == []) = true := by kernel_rfl
theorem k10 : (Rows.escapeUnlikeRow.inPlace == Try.prog.inPlace 6) = true := by kernel_rfl
theorem k11 : (Rows.escapeUnlikeRow.unfollowed == Try.prog.unfollowed 6) = true := by kernel_rfl
theorem k12 : (Rows.escapeUnlikeRow.recurses == Try.prog.recurses 6) = true := by kernel_rfl
theorem k13 : (Rows.escapeUnlikeRow.named == Try.prog.varsNamed 6) = true := by kernel_rfl
theorem k14 : (Rows.escapeUnlikeRow.maps == (Try.f6.params.toList ++ Rows.escapeUnlikeSpec.plain.varTypes Try.prog).any (Try.prog.mapsRec ·)) = true := by kernel_rfl
theorem k15 : (Rows.escapeUnlikeRow.ifaces == (Try.f6.params.toList ++ Rows.escapeUnlikeSpec.plain.varTypes Try.prog).any (Try.prog.ifacesRec ·)) = true := by kernel_rfl
theorem k16 : (Rows.escapeUnlikeRow.mapsOut == Try.prog.mapsAmong Try.f6.resultTypes.toList) = true := by kernel_rfl
theorem k17 : (Rows.escapeUnlikeRow.loops == (Try.f6.params.toList ++ Rows.escapeUnlikeSpec.plain.varTypes Try.prog).any (Try.prog.loopsFrom ·)) = true := by kernel_rfl
theorem k18 : (Rows.escapeUnlikeRow.wideKeys == (Try.f6.params.toList ++ Rows.escapeUnlikeSpec.plain.varTypes Try.prog ++ Try.f6.resultTypes.toList).any (Try.prog.wideKeysFrom ·)) = true := by kernel_rfl
theorem k19 : (Rows.escapeUnlikeSpec.vars.all (Try.prog.varReadable ·)) = true := by kernel_rfl
theorem k20 : (Try.f6.resultTypes.all (fun t => Try.prog.readableRec t && decide (t < Try.prog.types.size))) = true := by kernel_rfl
theorem k21 : (Rows.escapeUnlikeRow.ifacesOut == Try.f6.resultTypes.toList.any (Try.prog.ifacesRec ·)) = true := by kernel_rfl
theorem k22 : (Rows.escapeUnlikeRow.loopsOut == Try.f6.resultTypes.toList.any (Try.prog.loopsFrom ·)) = true := by kernel_rfl
theorem k24 : (Rows.escapeUnlikeRow.shortTexts.isNone) = true := by kernel_rfl
theorem k30 : (Rows.escapeUnlikeRow.pinned == Rows.escapeUnlikeRow.pinnedBy) = true := by kernel_rfl
theorem k31 : (Rows.escapeUnlikeRow.veiled == (Try.f6.params.toList ++ Rows.escapeUnlikeSpec.plain.varTypes Try.prog ++ Try.f6.resultTypes.toList).any (Try.prog.veiledRec ·)) = true := by kernel_rfl
theorem k32 : (Rows.escapeUnlikeRow.veiledFits Try.prog Try.f6.params.toList (Try.f6.params.toList ++ Rows.escapeUnlikeSpec.plain.varTypes Try.prog ++ Try.f6.resultTypes.toList)) = true := by kernel_rfl
theorem named_is : Try.prog.funcNamed Rows.escapeUnlikeRow.func = some 6 := by kernel_rfl
theorem inst_is : Try.f6.isInstance Try.prog Rows.escapeUnlikeRow.origin Rows.escapeUnlikeRow.targs := of_decide_eq_true (by kernel_rfl)
theorem over : Rows.EscapeUnlikeSaid :=
  OpenClaim.holds_of_wide 6 Try.f6 rfl rfl rfl rfl rfl rfl rfl ⟨rfl, rfl, rfl, rfl, rfl⟩ rfl rfl rfl rfl rfl named_is Try.func6
    (RowKit.joined k1 k4 k5 k6 k8 k10 k11 k12 k13 k14 k15 k16 k17 k18 k19 k20 k21 k22 rfl k24 rfl rfl rfl rfl k30 k31 k32)
    inst_is (by unfold Func.isWrapper; first | (rw [if_pos (by decide +kernel)]; kernel_rfl) | (rw [if_neg (by decide +kernel)]; exact ⟨rfl, rfl⟩))
    (fun os started H enc _ => lifted os started H enc)
end Go.Proofs.Ytajfpegacbohdaa.escapeUnlike
namespace Go.Proofs.Ytajfpegacbohdaa
theorem escapeUnlike_holds : Rows.EscapeUnlikeSaid := escapeUnlike.over
#print axioms escapeUnlike_holds
end Go.Proofs.Ytajfpegacbohdaa
