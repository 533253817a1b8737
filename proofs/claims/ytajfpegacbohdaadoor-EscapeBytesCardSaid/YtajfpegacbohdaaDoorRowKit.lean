/-
  For the rows of this seat: a call's contract lifted where the row lists package-level variables and the proof wants the world's shape.
-/
import Derived.ProofKit
import Derived.Handed
import Derived.SizedLaws
import Derived.LaidMore
import Derived.Lay
import Derived.Stop.Joined
import Derived.JoinedOf
import Derived.Test.YtajfpegacbohdaaDoorRows
import Derived.Test.YtajfpegacbohdaaDoorCards
import Derived.Test.YtajfpegacbohdaaDoorShelf
import Derived.Test.YtajfpegacbohdaaDoorHa0
import Derived.Test.YtajfpegacbohdaaDoorRowFacts
namespace Go.Proofs.YtajfpegacbohdaaDoor.RowKit
open Go Go.RowKit

theorem glob_of_shape {W : World} (h : W.ShapedOpen Tryd.prog) : Hand.Glob W := ⟨Tryd.laysM155.s1_3 W h⟩

section
variable {H : Type} {enc : TypeId × Value → H}
theorem handed_and_shaped {a : Assume} {C : Checked} {os : Os} {f : FuncId} {fn : Func} {s : ChangeSpec} {conds : List PathCond} {apart fresh handsOn again : Bool} {X : World → Array Value → Prop}
    (hX : ∀ (w w' : World) (args : Array Value), w.heap = w'.heap → X w args → X w' args)
    (own : ownKnob C.prog.godebug = none) (started : os.Started) (noInit : C.prog.inits.idxOf? f = none) (hfn : C.prog.funcs[f]? = some fn)
    (witness : ∃ (w : World) (tape : Tape) (i : Input), w.os = os ∧ (w.forCall tape i).Shaped C.prog ∧ i.vars = [] ∧ Input.okWide C.prog (w.forCall tape i) .any w.heap.size f i ∧
      ((s.pre enc C.prog fn conds apart (w.forCall tape i).memory i.args ∧ X (w.forCall tape i).memory i.args) ∧ sizedMet enc C.prog fn (OpenSpec.ofChange s) apart (w.forCall tape i).memory i.args) ∧
      a.holds C.prog (lone (Frame.enter C.prog f i.args .normal) [] (w.forCall tape i)))
    (contract : ∀ (W : World) (base : Nat) (args : Array Value) (ds gs : List (DataW H)) (before : List MemPlace),
      (∀ (j : Nat) t v, fn.params[j]? = some t → args[j]? = some v → Value.okWide C.prog W .any base t v) →
      DataW.Whole enc C.prog fn.params.toList s.vars apart W args.toList ds gs before →
      (DataW.weightsEach C.prog (fn.params.toList ++ s.plain.varTypes C.prog) (ds ++ gs)).all (· ≤ reachBytes) = true → X W args → W.ShapedOpen C.prog →
      Calls C.prog f args W fun e W' => ∃ v, e = .returned v ∧ s.post enc C.prog fn apart fresh handsOn again W args v W') :
    ReturnsInHanded a C os f .any (fun w args => (s.pre enc C.prog fn conds apart w args ∧ X w args) ∧ sizedMet enc C.prog fn (OpenSpec.ofChange s) apart w args) (s.post enc C.prog fn apart fresh handsOn again) := by
  refine returnsInHanded_of_calls own started noInit witness ?_
  intro w tape i _ hsh _ hok hpre _
  obtain ⟨_, _, _, fn', hfn', _, _, _, _, hval⟩ := hok
  have e : fn' = fn := Option.some.inj (hfn'.symm.trans hfn)
  subst e
  obtain ⟨⟨⟨ds, gs, before, hw, _⟩, hx⟩, hz⟩ := hpre
  have hw' := DataW.Whole.of_heap (w' := w.forCall tape i) (by rfl) hw
  refine (contract (w.forCall tape i) w.heap.size i.args ds gs before hval hw' (hz.weights hw) (hX _ _ _ (by rfl) hx) hsh).mono fun e W' ⟨v, he, hp⟩ => ?_
  subst he
  exact ChangeSpec.post_blind hp
end

theorem joined {f : FuncId} {fn : Func} {s : ChangeSpec} {c : OpenClaim}
    (k1 : c.wf (OpenSpec.ofChange s) = true) (k4 : (fn.params.all (Tryd.prog.readableRec ·)) = true) (k5 : namedTie Tryd.prog c.named s.vars = true) (k6 : (c.stops == []) = true) (k8 : (c.knobs == []) = true)
    (k10 : (c.inPlace == Tryd.prog.inPlace f) = true) (k11 : (c.unfollowed == Tryd.prog.unfollowed f) = true) (k12 : (c.recurses == Tryd.prog.recurses f) = true) (k13 : (c.named == Tryd.prog.varsNamed f) = true)
    (k14 : (c.maps == (fn.params.toList ++ s.plain.varTypes Tryd.prog).any (Tryd.prog.mapsRec ·)) = true) (k15 : (c.ifaces == (fn.params.toList ++ s.plain.varTypes Tryd.prog).any (Tryd.prog.ifacesRec ·)) = true) (k16 : (c.mapsOut == Tryd.prog.mapsAmong fn.resultTypes.toList) = true)
    (k17 : (c.loops == (fn.params.toList ++ s.plain.varTypes Tryd.prog).any (Tryd.prog.loopsFrom ·)) = true) (k18 : (c.wideKeys == (fn.params.toList ++ s.plain.varTypes Tryd.prog ++ fn.resultTypes.toList).any (Tryd.prog.wideKeysFrom ·)) = true)
    (k19 : s.vars.all (Tryd.prog.varReadable ·) = true) (k20 : fn.resultTypes.all (fun t => Tryd.prog.readableRec t && decide (t < Tryd.prog.types.size)) = true) (k21 : (c.ifacesOut == fn.resultTypes.toList.any (Tryd.prog.ifacesRec ·)) = true) (k22 : (c.loopsOut == fn.resultTypes.toList.any (Tryd.prog.loopsFrom ·)) = true)
    (k23 : c.plainKeys = R.plainKeys) (k24 : c.shortTexts.isNone = true) (k27 : c.lifted = R.lifted) (k28 : c.make = R.make)
    (k29 : c.domain = []) (k29' : c.kinds = []) (k30 : (c.pinned == c.pinnedBy) = true)
    (k31 : (c.veiled == (fn.params.toList ++ s.plain.varTypes Tryd.prog ++ fn.resultTypes.toList).any (Tryd.prog.veiledRec ·)) = true) (k32 : c.veiledFits Tryd.prog fn.params.toList (fn.params.toList ++ s.plain.varTypes Tryd.prog ++ fn.resultTypes.toList) = true) :
    joinedFacts Tryd.prog f fn s c = true := by
  have e23 : (c.plainKeys == Tryd.prog.plainKeys) = true := by rw [k23]; exact p23
  have e27 : (c.lifted == Tryd.prog.liftsFinal) = true := by rw [k27]; exact p27
  have e28 : (Tryd.prog.make == some c.make) = true := by rw [k28]; exact p28
  unfold joinedFacts
  rw [k1, p2, p3, k4, k5, k6, p7, k8, p9, k10, k11, k12, k13, k14, k15, k16, k17, k18, k19, k20, k21, k22, e23, k24, p25, p26, e27, e28, k29, k29', k30, k31, k32]
  rfl
end Go.Proofs.YtajfpegacbohdaaDoor.RowKit
