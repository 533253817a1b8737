/-
  Texts of the claim SafeRaw, merged by a program of this session (1).
-/
import Derived.Test.YtbdcghbafopjjaaGreatDoorZqf
import Derived.Below
import Derived.Deep.Draws
import Derived.Deep.AppendLies
import Derived.Maps.AppendAt
import Derived.OwnWalk
import Derived.Laws.BytesArg
import Derived.Laws.MakeOwn
import Derived.Laws.OwnMore
import Derived.Deep.OwnRows
import Derived.Tactics
import Derived.Lib.ConvBytes
import Derived.Laws.Slices
import Derived.WalkKit
import Derived.KernelRfl
import Derived.RowKit3
import Derived.Deep.LoopGhost
import Derived.Deep.QuietTactic
import Derived.BigQuiet
import Derived.WideLaws
import Derived.Deep.DeepCutAuto
import Derived.Deep.CutBlock
import Derived.Deep.RegionHeld3
import Derived.Laws.Rows
import Derived.Lib.AppendStr
import Derived.ArgAppend
import Derived.Laws.IdiomCopy
import Derived.RowKit
import Derived.OrdersHeld
import Derived.Laws.BitsLemmas
import Derived.Laws.StructEq
import Derived.Shelf.Strings.Builder1
import Derived.Shelf.Strings.Builder2
import Derived.Shelf.Small.Strs
import Derived.Shelf.Small.Wraps
import Derived.Shelf.Strings.BuilderF
import Derived.Shelf.Strings.BuilderK
import Derived.Shelf.Utf8.RuneCount
import Derived.Shelf.LaysM
import Derived.Shelf.Strconv.Clone
import Derived.Shelf.Strconv.SyntaxError
import Derived.Shelf.LaysC
import Derived.Shelf.Strconv.ToError
import Derived.Shelf.Strconv.Lower
import Derived.Shelf.Strconv.ParseUintEmpty
import Derived.Shelf.Strings.Search1
import Derived.Shelf.Strings.Search2
import Derived.Shelf.Strings.Search3
import Derived.Shelf.Strings.Cut
import Derived.Shelf.Strings.Count
import Derived.Shelf.Strings.Shaped
import Derived.Shelf.Strings.LastIndex
import Derived.Shelf.Strings.Prefix
import Derived.Shelf.Strings.Split
import Derived.Shelf.Strings.Replace
import Derived.Shelf.Strings.SplitShaped
import Derived.Shelf.Unicode.Decode
import Derived.Shelf.Strings.RuneCount
import Derived.Shelf.Unicode.DecodeSlow
import Derived.Shelf.Unicode.DecodeAny
import Derived.Test.YtbdcghbafopjjaaGreatDoorProg
import Derived.Lib.Replace
import Derived.Lib.CountLaws
import Derived.Lib.IndexLaws
import Derived.WalkSpells
import Derived.WalkLawsBesides
import Derived.WalkMore
import Derived.ScopeJumps
import Derived.Lib.Hide
section
set_option linter.unusedVariables false
set_option linter.unusedSimpArgs false
namespace Go.Proofs.YtbdcghbafopjjaaGreatDoorW.PrintWords
open Go.RowKit
section
variable {P : Program} {ops : Array Oper} {rest : List Oper} {o : Oper} {a : Act} {Q : Exit → Act → World → Prop}
end
section
variable {P : Program}
end
section
variable {P : Program} {ops : Array Oper} {rest : List Oper} {o : Oper} {a : Act} {Q : Exit → Act → World → Prop}
end
theorem ReadsInt.take_ {w : World} {k : IntKind} {A : Option Addr} {n : Nat} {xs : List Int} (h : ReadsInt w k A n xs) (i : Nat) (hi : i ≤ n) : ReadsInt w k A i (xs.take i) := by
  refine ⟨by rw [List.length_take, h.1]; omega, by have := h.2.1; omega, fun hp => ?_⟩
  obtain ⟨ad, e, hc⟩ := h.2.2 (by omega)
  refine ⟨ad, e, fun j hj => ?_⟩
  rw [hc j (by omega)]
  simp [List.getD_eq_getElem?_getD, hj]
theorem more_rounds {α : Type} {g : Nat → Option α} (h : ∀ k, LeO (g k) (g (k + 1))) (k : Nat) : ∀ j, LeO (g k) (g (k + j))
  | 0 => LeO.refl _
  | j + 1 => (more_rounds h k j).trans (h (k + j))
theorem at_rounds {α : Type} {g : Nat → Option α} (h : ∀ k, LeO (g k) (g (k + 1))) {k k' : Nat} (hk : k ≤ k') {r : α} (hr : g k = some r) : g k' = some r := by
  have := more_rounds h k (k' - k) r hr
  rwa [Nat.add_sub_cancel' hk] at this
section
variable {P : Program} {ops : Array Oper} {rest : List Oper} {o : Oper} {a : Act} {Q : Exit → Act → World → Prop}
end
theorem Ev.of {α : Type} {g : Nat → Option α} {r : α} (hg : ∀ k, LeO (g k) (g (k + 1))) {k : Nat} (h : g k = some r) : Ev g r := ⟨k, fun _ hk => at_rounds hg hk h⟩
section
variable {P : Program} {ops : Array Oper} {o : Oper} {a : Act} {Q : Exit → Act → World → Prop} {K : Act → World → Prop}
end
section
variable {α : Type} {enc : α → Value} {d : α}
theorem ReadsOf.take_ {w : World} {A : Option Addr} {n : Nat} {xs : List α} (h : ReadsOf enc d w A n xs) (i : Nat) (hi : i ≤ n) : ReadsOf enc d w A i (xs.take i) := by
  refine ⟨by rw [List.length_take, h.1]; omega, by have := h.2.1; omega, fun hp => ?_⟩
  obtain ⟨ad, e, hc⟩ := h.2.2 (by omega)
  refine ⟨ad, e, fun j hj => ?_⟩
  rw [hc j (by omega)]
  simp [List.getD_eq_getElem?_getD, hj]
end
section
variable {α : Type} {P : Program} {ops : Array Oper} {rest : List Oper} {o : Oper} {a : Act} {Q : Exit → Act → World → Prop}
end
section
variable {P : Program}
end
section
variable {α : Type} {R R' : α → List Value → Prop} {e : TypeId} {size : Nat} {w w1 : World} {base : Nat} {v : Value} {ps : List α}
end
section
variable {P : Program} {ops : Array Oper} {rest : List Oper} {o : Oper} {a : Act} {Q : Exit → Act → World → Prop} {α : Type} {R : α → List Value → Prop}
end
section
variable {P : Program} {ops : Array Oper} {o : Oper} {a : Act} {Q : Exit → Act → World → Prop} {K : Act → World → Prop} {α : Type} {R : α → List Value → Prop}
end
section
variable {α : Type} {P : Program}
end
section
variable {P : Program} {ops : Array Oper} {rest : List Oper} {o : Oper} {a : Act} {Q : Exit → Act → World → Prop}
end
namespace Kd
section
variable {α : Type} {d : Kd α} {e : Nat} {w w1 : World} {base : Nat} {ok ok' : Nat → Prop} {v : Value} {xs : List α}
end
section
variable {P : Program} {ops : Array Oper} {rest : List Oper} {o : Oper} {a : Act} {Q : Exit → Act → World → Prop} {α : Type}
end
section
variable {P : Program} {ops : Array Oper} {o : Oper} {a : Act} {Q : Exit → Act → World → Prop} {Kc : Act → World → Prop} {α : Type}
end
end Kd
namespace Kd
section
variable {α : Type} {F : Kd α → Kd α} {sz : Nat} {E : List Nat} {hs : ∀ n, (upto F sz E n).sz = sz} {hE : ∀ n q, q ∈ (upto F sz E n).E → q ∈ E}
end
end Kd
namespace Kd
end Kd
namespace Kd
section
variable {α β : Type} {d : Kd α} {d' : Kd β} {e e' : Nat} {w w1 W : World} {base b b' : Nat} {ok ok' okv oku : Nat → Prop} {v u : Value} {xs : List α} {ys : List β}
theorem C_alloc {A : Option Addr} {n : Nat} (h : d.C w A n xs) (o : Obj) : d.C (w.alloc o) A n xs := C_below h (below_alloc (Below.refl _ _) o)
theorem C_drew {A : Option Addr} {n : Nat} (h : d.C w A n xs) : d.C w.drew A n xs := C_below h (below_drew (Below.refl _ _))
theorem C_drewN {A : Option Addr} {n : Nat} (h : d.C w A n xs) (m : Nat) : d.C (w.drewN m) A n xs := C_below h (pw_below_drewN (Below.refl _ _) m)
end
section
variable {w W : World} {A : Option Addr} {n : Nat}
variable {α : Type} {enc : α → Value} {h1 : ∀ x, (enc x).oneCell' = true} {e base g cap : Nat} {ok : Nat → Prop} {xs : List α}
end
section
variable {P : Program} {ops : Array Oper} {rest : List Oper} {o : Oper} {a : Act} {Q : Exit → Act → World → Prop}
variable {α : Type}
end
end Kd
section
variable {P : Program}
end
section
variable {w w1 : World} {base n size : Nat} {e : TypeId} {v : Value} {xs : List Value}
end
section
variable {P : Program}
end
namespace Kd
section
variable {α : Type} {d : Kd α} {e : Nat} {w w1 W : World} {base : Nat} {ok ok' : Nat → Prop} {v : Value} {xs : List α}
end
section
variable {P : Program} {ops : Array Oper} {rest : List Oper} {o : Oper} {a : Act} {Q' : Exit → Act → World → Prop} {Kc : Act → World → Prop} {α : Type}
end
end Kd
namespace Kd
section
variable {α : Type} {d : Kd α} {e e' : Nat} {w w1 W : World} {base : Nat} {ok : Nat → Prop} {u v : Value} {xs : List α}
end
end Kd
namespace Kd
section
variable {α : Type} {d : Kd α} {e base g n cap : Nat} {ok okp : Nat → Prop} {W : World} {xs : List α}
end
end Kd
namespace Kd
section
variable {α : Type} {F : Kd α → Kd α} {sz : Nat} {E : List Nat} {hs : ∀ n, (upto F sz E n).sz = sz} {hE : ∀ n q, q ∈ (upto F sz E n).E → q ∈ E}
end
end Kd
namespace Kd
section
variable {P : Program} {ops : Array Oper} {rest : List Oper} {o : Oper} {a : Act} {Q : Exit → Act → World → Prop} {α : Type}
end
end Kd
namespace Kd
section
variable {P : Program} {ops : Array Oper} {rest : List Oper} {o : Oper} {a : Act} {Q : Exit → Act → World → Prop} {α : Type}
end
end Kd
namespace Kd
section
variable {α : Type} {k : Kd α} {w : World} {A : Option Addr} {xs : List α} {m c : Nat}
end
end Kd
section
variable {P : Program}
end
namespace Kd
section
variable {α β : Type} {d : Kd α} {d' : Kd β} {e e' base base' n : Nat} {ok ok' : Nat → Prop} {w W w1 W1 : World} {v u : Value} {xs : List α} {ys : List β} {A : Option Addr} {c : Nat}
end
section
variable {α : Type} {enc : α → Value} {h1 : ∀ x, (enc x).oneCell' = true} {w W : World} {A : Option Addr} {n g : Nat} {xs : List α}
end
end Kd
namespace Kd
section
variable {α : Type} {d : Kd α} {e base g : Nat} {ok : Nat → Prop} {w w1 : World} {v : Value} {xs : List α} {o : Obj}
end
end Kd
section
variable {P : Program} {ops : Array Oper} {rest : List Oper} {o : Oper} {a : Act} {Q : Exit → Act → World → Prop}
end
namespace Kd
section
variable {α : Type} {enc : α → Value} {h1 : ∀ x, (enc x).oneCell' = true} {e base g n cap : Nat} {ok : Nat → Prop} {W : World} {xs : List α}
end
end Kd
section
variable {P : Program} {ops : Array Oper} {rest : List Oper} {o : Oper} {a : Act} {Q : Exit → Act → World → Prop}
end
namespace Kd
section
variable {α : Type} {enc : α → Value} {h1 : ∀ x, (enc x).oneCell' = true} {e base g n cap : Nat} {ok : Nat → Prop} {W : World} {xs : List α}
end
end Kd
section
variable {P : Program} {ops : Array Oper} {rest : List Oper} {o : Oper} {a : Act} {Q : Exit → Act → World → Prop} {W : World}
end
section
variable {P : Program} {ops : Array Oper} {o : Oper} {a : Act} {Q : Exit → Act → World → Prop} {Kc : Act → World → Prop}
namespace Kd
variable {α : Type}
end Kd
end
section
variable {P : Program} {tmps : Array Value} {w : World}
end
namespace Kd
section
variable {P : Program} {α : Type}
end
section
variable {P : Program} {ops : Array Oper} {rest : List Oper} {o : Oper} {a : Act} {Q : Exit → Act → World → Prop} {Kc : Act → World → Prop} {α : Type}
end
end Kd
end Go.Proofs.YtbdcghbafopjjaaGreatDoorW.PrintWords
end

section
namespace Go.Proofs.YtbdcghbafopjjaaGreatDoorW.PrintLast
section
variable {P : Program} {ops : Array Oper} {Q : Exit → Act → World → Prop} {md : Region.Mode} {S : World → Prop} {ds : List Nat}
def Region.reachB (md : Region.Mode) (ops : Array Oper) (i : Nat) : Nat → Nat → Bool
  | 0, _ => false
  | fuel + 1, d => match ops[d]? with
    | some o => o.after.any fun e => Region.binds md e && (e.on == i || Region.reachB md ops i fuel e.on)
    | none => false
def Region.closedB (md : Region.Mode) (ops : Array Oper) (listed : Array Bool) : Bool :=
  (List.range ops.size).all fun j => !listed.getD j false || match ops[j]? with
    | some o => o.after.all fun e => !Region.binds md e || listed.getD e.on false
    | none => true
def Region.lastB (md : Region.Mode) (ops : Array Oper) (listed : Array Bool) (ds : List Nat) (i : Nat) : Bool :=
  ds.all fun d => listed.getD d true || Region.reachB md ops i ops.size d
theorem Region.closedB_spec {listed : Array Bool} (h : Region.closedB md ops listed = true) : ListedClosed md ops listed := by
  intro j oj hj hl e he hb
  have hlt : j < ops.size := (Array.getElem?_eq_some_iff.1 hj).1
  have h1 := List.all_eq_true.1 h j (List.mem_range.2 hlt)
  simp only [hl, hj, Bool.not_true, Bool.false_or] at h1
  have h2 := Array.all_eq_true_iff_forall_mem.1 h1 e he
  simpa [hb] using h2
theorem Region.reach_listed {listed : Array Bool} {i : Nat} (hc : ListedClosed md ops listed) : ∀ (fuel d : Nat), Region.reachB md ops i fuel d = true → listed.getD d false = true → listed.getD i false = true
  | 0, _, h, _ => by simp [Region.reachB] at h
  | fuel + 1, d, h, hl => by
    unfold Region.reachB at h
    cases ho : ops[d]? with
    | none => rw [ho] at h; simp at h
    | some o =>
      rw [ho] at h
      obtain ⟨e, he, h1⟩ := Array.any_eq_true'.1 h
      simp only [Bool.and_eq_true, Bool.or_eq_true, beq_iff_eq] at h1
      have hle := hc d o ho hl e he h1.1
      rcases h1.2 with h2 | h2
      · rw [← h2]; exact hle
      · exact Region.reach_listed hc fuel e.on h2 hle
theorem Region.reach_not_ready {listed : Array Bool} {i d fuel : Nat} (hc : ListedClosed md ops listed) (hr : Region.reachB md ops i fuel d = true) (hun : listed.getD i true = false) : d ∉ Region.ready md ops listed := by
  intro hd
  obtain ⟨_, o, ho, hall⟩ := mem_ready.1 hd
  have hi : listed.getD i false = true := by
    cases fuel with
    | zero => simp [Region.reachB] at hr
    | succ n =>
      unfold Region.reachB at hr
      rw [ho] at hr
      obtain ⟨e, he, h1⟩ := Array.any_eq_true'.1 hr
      simp only [Bool.and_eq_true, Bool.or_eq_true, beq_iff_eq] at h1
      have hle := hall e he h1.1
      rcases h1.2 with h2 | h2
      · rw [← h2]; exact hle
      · exact Region.reach_listed hc n e.on h2 hle
  rcases Nat.lt_or_ge i listed.size with h' | h'
  · simp [h'] at hun hi
    rw [hun] at hi
    cases hi
  · simp [Array.getElem?_eq_none h'] at hun
theorem wpAny_of_last : ∀ (fuel : Nat) (listed : Array Bool) (a : Act) (w : World), wpAnyLast P md ops Q S ds fuel listed a w → wpAny P md ops Q fuel listed a w
  | 0, _, _, _, h => h
  | fuel + 1, _, _, _, h => ⟨h.1, fun i hi => wpOp_mono (fun a' w' h' => wpAny_of_last fuel _ a' w' h'.2) (h.2 i hi)⟩
theorem wpAnyLast_first {i : Nat} {oi : Oper} {v : Value} (hi : ops[i]? = some oi) (hsel : ∀ (j : Nat) (o : Oper) cs b, ops[j]? = some o → o.op ≠ .select cs b)
    (hQ : ∀ c a w, Q (.panic c) (a.put oi.dst v) w → Q (.panic c) a w) (n : Nat) :
    ∀ (fuel : Nat) (listed : Array Bool) (a : Act) (w : World),
      (∀ j oj, ops[j]? = some oj → j ≠ i → listed.getD j true = false → (∀ e ∈ oj.after, Region.binds md e = true → e.on ≠ i) → oi.apart ops oj = true) →
      ListedClosed md ops listed → (∀ d ∈ ds, listed.getD d true = false → Region.reachB md ops i n d = true) →
      i ∈ Region.ready md ops listed → YieldsIf P ops S oi v a → S w →
      wpAnyLast P md ops Q S ds fuel (listed.setIfInBounds i true) (a.put oi.dst v) w → wpAnyLast P md ops Q S ds (fuel + 1) listed a w := by
  intro fuel
  induction fuel with
  | zero =>
    intro listed a w _ _ _ hr hy hS H
    refine ⟨fun h => (by rw [h] at hr; cases hr), fun j hj => ?_⟩
    by_cases hji : j = i
    · subst hji; exact hy.wpOp hi hS ⟨fun _ h => h, H⟩
    · have := ready_mono hj hji
      rw [H.1] at this
      cases this
  | succ fuel ih =>
    intro listed a w hfree hc hd hr hy hS H
    refine ⟨fun h => (by rw [h] at hr; cases hr), fun j hj => ?_⟩
    by_cases hji : j = i
    · subst hji; exact hy.wpOp hi hS ⟨fun _ h => h, H⟩
    · have h1 := H.2 j (ready_mono hj hji)
      obtain ⟨hjun, oj, hoj, hall⟩ := mem_ready.1 hj
      have hiun := (mem_ready.1 hr).1
      have hnot : ∀ e ∈ oj.after, Region.binds md e = true → e.on ≠ i := fun e he hb heq => by
        have h1 := hall e he hb
        rw [heq] at h1
        rcases Nat.lt_or_ge i listed.size with h' | h'
        · simp [h'] at hiun h1; rw [hiun] at h1; cases h1
        · simp [Array.getElem?_eq_none h'] at h1
      have hjd : j ∉ ds := fun hm => Region.reach_not_ready hc (hd j hm hjun) hiun hj
      have h2 := wpOp_putIf hoj (hfree j oj hoj hji hjun hnot) (fun cs b => hsel i oi cs b hi) (fun cs b => hsel j oj cs b hoj) hQ hy h1
      have hfree' : ∀ k ok, ops[k]? = some ok → k ≠ i → (listed.setIfInBounds j true).getD k true = false →
          (∀ e ∈ ok.after, Region.binds md e = true → e.on ≠ i) → oi.apart ops ok = true := fun k ok hk hki hun hno => by
        refine hfree k ok hk hki ?_ hno
        by_cases hjk : j = k
        · subst hjk; exact hjun
        · rw [getD_set_ne true hjk] at hun; exact hun
      have hd' : ∀ d ∈ ds, (listed.setIfInBounds j true).getD d true = false → Region.reachB md ops i n d = true := fun d hm hun => by
        refine hd d hm ?_
        by_cases hjk : j = d
        · subst hjk; exact hjun
        · rw [getD_set_ne true hjk] at hun; exact hun
      refine wpOp_mono (fun a' w' h3 => ⟨h3.2.1, ih (listed.setIfInBounds j true) a' w' hfree' (hc.set hj) hd' (ready_mono hr (Ne.symm hji)) h3.1 (h3.2.1 hjd hS) ?_⟩) h2
      rw [Array.setIfInBounds_comm _ _ hji]
      exact h3.2.2
theorem wpAnyLast_any {i : Nat} {oi : Oper} {v : Value} (hi : ops[i]? = some oi) (hsel : ∀ (j : Nat) (o : Oper) cs b, ops[j]? = some o → o.op ≠ .select cs b)
    (hQ : ∀ c a w, Q (.panic c) (a.put oi.dst v) w → Q (.panic c) a w) :
    ∀ (fuel : Nat) (listed : Array Bool) (a : Act) (w : World),
      (∀ j oj, ops[j]? = some oj → j ≠ i → listed.getD j true = false → (∀ e ∈ oj.after, Region.binds md e = true → e.on ≠ i) → oi.apart ops oj = true) →
      i ∈ Region.ready md ops listed → Yields P ops oi v a →
      wpAnyLast P md ops Q S ds fuel (listed.setIfInBounds i true) (a.put oi.dst v) w → wpAnyLast P md ops Q S ds (fuel + 1) listed a w := by
  intro fuel
  induction fuel with
  | zero =>
    intro listed a w _ hr hy H
    refine ⟨fun h => (by rw [h] at hr; cases hr), fun j hj => ?_⟩
    by_cases hji : j = i
    · subst hji; exact (hy.yieldsIf (S := fun _ => True)).wpOp hi trivial ⟨fun _ h => h, H⟩
    · have := ready_mono hj hji
      rw [H.1] at this
      cases this
  | succ fuel ih =>
    intro listed a w hfree hr hy H
    refine ⟨fun h => (by rw [h] at hr; cases hr), fun j hj => ?_⟩
    by_cases hji : j = i
    · subst hji; exact (hy.yieldsIf (S := fun _ => True)).wpOp hi trivial ⟨fun _ h => h, H⟩
    · have h1 := H.2 j (ready_mono hj hji)
      obtain ⟨hjun, oj, hoj, hall⟩ := mem_ready.1 hj
      have hiun := (mem_ready.1 hr).1
      have hnot : ∀ e ∈ oj.after, Region.binds md e = true → e.on ≠ i := fun e he hb heq => by
        have h1 := hall e he hb
        rw [heq] at h1
        rcases Nat.lt_or_ge i listed.size with h' | h'
        · simp [h'] at hiun h1; rw [hiun] at h1; cases h1
        · simp [Array.getElem?_eq_none h'] at h1
      have h2 := wpOp_put hoj (hfree j oj hoj hji hjun hnot) (fun cs b => hsel i oi cs b hi) (fun cs b => hsel j oj cs b hoj) hQ hy h1
      have hfree' : ∀ k ok, ops[k]? = some ok → k ≠ i → (listed.setIfInBounds j true).getD k true = false →
          (∀ e ∈ ok.after, Region.binds md e = true → e.on ≠ i) → oi.apart ops ok = true := fun k ok hk hki hun hno => by
        refine hfree k ok hk hki ?_ hno
        by_cases hjk : j = k
        · subst hjk; exact hjun
        · rw [getD_set_ne true hjk] at hun; exact hun
      refine wpOp_mono (fun a' w' h3 => ⟨h3.2.1, ih (listed.setIfInBounds j true) a' w' hfree' (ready_mono hr (Ne.symm hji)) h3.1 ?_⟩) h2
      rw [Array.setIfInBounds_comm _ _ hji]
      exact h3.2.2
theorem wpAnyLast_take {i : Nat} {oi : Oper} {v : Value} {fuel : Nat} {listed : Array Bool} {a : Act} {w : World} (hi : ops[i]? = some oi)
    (hs : Region.noSelect ops = true) (hf : Region.free md ops listed i = true) (hr : (Region.ready md ops listed).contains i = true)
    (hc : Region.closedB md ops listed = true) (hl : Region.lastB md ops listed ds i = true)
    (hQ : ∀ c a w, Q (.panic c) (a.put oi.dst v) w → Q (.panic c) a w) (hy : YieldsIf P ops S oi v a) (hS : S w)
    (h : wpAnyLast P md ops Q S ds fuel (listed.setIfInBounds i true) (a.put oi.dst v) w) : wpAnyLast P md ops Q S ds (fuel + 1) listed a w :=
  wpAnyLast_first hi (Region.noSelect_spec hs) hQ ops.size fuel listed a w (Region.free_spec hi hf) (Region.closedB_spec hc)
    (fun d hm hun => by have := List.all_eq_true.1 hl d hm; rw [hun] at this; simpa using this) (by simpa using hr) hy hS h
theorem wpAnyLast_all {rs : List Nat} {fuel : Nat} {listed : Array Bool} {a : Act} {w : World} (hr : Region.ready md ops listed = rs) (hne : rs ≠ [])
    (h : ∀ i ∈ rs, wpOp P ops Q i (fun a' w' => (i ∉ ds → S w → S w') ∧ wpAnyLast P md ops Q S ds fuel (listed.setIfInBounds i true) a' w') a w) : wpAnyLast P md ops Q S ds (fuel + 1) listed a w :=
  ⟨fun h0 => absurd (hr ▸ h0) hne, hr ▸ h⟩
theorem wpAnyLast_done {listed : Array Bool} {a : Act} {w : World} (hr : Region.ready md ops listed = []) (h : Q .normal a w) :
    ∀ fuel, wpAnyLast P md ops Q S ds fuel listed a w
  | 0 => ⟨hr, h⟩
  | _ + 1 => ⟨fun _ => h, by rw [hr]; simp⟩
theorem wp_region_last {id : Nat} {a : Act} {w : World} (hm : P.follows .mixedOrders = true)
    (h : wpAnyLast P .any ops Q S ds ops.size (Array.replicate ops.size false) a { w with drawn := w.drawn + 1 }) : (Code.region id ops true).wp P Q a w :=
  wp_region_any hm (wpAny_of_last _ _ _ _ h)
end
section
variable {P : Program} {ops : Array Oper} {Q : Exit → Act → World → Prop} {md : Region.Mode} {S : World → Prop} {ds : List Nat}
theorem wpAnyLast_ready {rs : List Nat} {fuel : Nat} {listed : Array Bool} {a : Act} {w : World} (hr : Region.ready md ops listed = rs) (hne : rs ≠ [])
    (h : AllReadyL P md ops Q S ds fuel listed a w rs) : wpAnyLast P md ops Q S ds (fuel + 1) listed a w := wpAnyLast_all hr hne h
theorem start_ {id n : Nat} {a : Act} {w : World} (l : Array Bool) (hm : P.follows .mixedOrders = true) (hn : ops.size = n) (hl : Array.replicate n false = l) (hS : S w.drew)
    (h : S w.drew → wpAnyLast P .any ops Q S ds n l a w.drew) : (Code.region id ops true).wp P Q a w := by
  subst hn
  subst hl
  exact wp_region_last hm (h hS)
def takeB (md : Region.Mode) (ops : Array Oper) (ds : List Nat) (l l' : Array Bool) (i : Nat) : Bool :=
  Region.noSelect ops && Region.free md ops l i && (Region.ready md ops l).contains i && Region.closedB md ops l && Region.lastB md ops l ds i && (l.setIfInBounds i true == l')
theorem take_ {i : Nat} {N : Option Tmp} {oi : Oper} {v : Value} {fuel : Nat} {l : Array Bool} {a : Act} {w : World} (l' : Array Bool) (hi : ops[i]? = some oi) (hN : oi.dst = N) (hc : takeB md ops ds l l' i = true)
    (hQ : ∀ c a w, Q (.panic c) (a.put oi.dst v) w → Q (.panic c) a w) (hy : YieldsIf P ops S oi v a) (hS : S w) {a' : Act} (ha : a.put N v = a')
    (h : wpAnyLast P md ops Q S ds fuel l' a' w) : wpAnyLast P md ops Q S ds (fuel + 1) l a w := by
  subst ha
  subst hN
  simp only [takeB, Bool.and_eq_true, beq_iff_eq] at hc
  obtain ⟨⟨⟨⟨⟨h1, h2⟩, h3⟩, h4⟩, h5⟩, h6⟩ := hc
  subst h6
  exact wpAnyLast_take hi h1 h2 h3 h4 h5 hQ hy hS h
def anyB (md : Region.Mode) (ops : Array Oper) (l l' : Array Bool) (i : Nat) : Bool :=
  Region.noSelect ops && Region.free md ops l i && (Region.ready md ops l).contains i && (l.setIfInBounds i true == l')
theorem pure_ {i : Nat} {N : Option Tmp} {oi : Oper} {v : Value} {fuel : Nat} {l : Array Bool} {a : Act} {w : World} (l' : Array Bool) (hi : ops[i]? = some oi) (hN : oi.dst = N) (hc : anyB md ops l l' i = true)
    (hQ : ∀ c a w, Q (.panic c) (a.put oi.dst v) w → Q (.panic c) a w) (hy : Yields P ops oi v a) {a' : Act} (ha : a.put N v = a')
    (h : wpAnyLast P md ops Q S ds fuel l' a' w) : wpAnyLast P md ops Q S ds (fuel + 1) l a w := by
  subst ha
  subst hN
  simp only [anyB, Bool.and_eq_true, beq_iff_eq] at hc
  obtain ⟨⟨⟨h1, h2⟩, h3⟩, h6⟩ := hc
  subst h6
  exact wpAnyLast_any hi (Region.noSelect_spec h1) hQ fuel l a w (Region.free_spec hi h2) (by simpa using h3) hy h
def readyB (md : Region.Mode) (ops : Array Oper) (l l' : Array Bool) (i : Nat) : Bool := (Region.ready md ops l == [i]) && (l.setIfInBounds i true == l')
theorem one_ {i : Nat} {N : Option Tmp} {oi : Oper} {fuel : Nat} {l : Array Bool} {a : Act} {w : World} (l' : Array Bool) (hi : ops[i]? = some oi) (hN : oi.dst = N) (hc : readyB md ops l l' i = true) (hd : i ∉ ds)
    (h : ∀ K : Act → World → Prop, Shut (∀ a' w', S w' → (S w' → wpAnyLast P md ops Q S ds fuel l' a' w') → K a' w') → if Region.wanted oi (yielded ops a.tmps) = true then Oper.wp P oi a w K Q else K (a.put N undef) w) :
    wpAnyLast P md ops Q S ds (fuel + 1) l a w := by
  subst hN
  simp only [readyB, Bool.and_eq_true, beq_iff_eq] at hc
  obtain ⟨h1, h2⟩ := hc
  subst h2
  exact wpAnyLast_ready h1 (by simp) (AllReadyL.cons hi hd (fun K hK => h K hK) AllReadyL.nil)
theorem done_ {l : Array Bool} {a : Act} {w : World} {n : Nat} (hr : (Region.ready md ops l == []) = true) (h : Q .normal a w) : wpAnyLast P md ops Q S ds n l a w := wpAnyLast_done (by simpa using hr) h n
theorem norm_ {fuel : Nat} {l : Array Bool} {a a' : Act} {w : World} (ha : a = a') (h : wpAnyLast P md ops Q S ds fuel l a' w) : wpAnyLast P md ops Q S ds fuel l a w := by
  subst ha
  exact h
theorem call_ {oi : Oper} {N : Option Tmp} {a : Act} {w : World} {K : Act → World → Prop} (f : FuncId) (args : Array Value) (hw : Region.wanted oi (yielded ops a.tmps) = true) (hN : oi.dst = N) (hrun : (execOp a.eval oi).run P w = .ok (.enter f args) w)
    (h : Calls P f args w fun e w' => ∃ v, e = .returned v ∧ K (a.put N v) w') : if Region.wanted oi (yielded ops a.tmps) = true then Oper.wp P oi a w K Q else K (a.put N undef) w := by
  rw [if_pos hw]
  subst hN
  unfold Oper.wp
  rw [hrun, Oper.upon_enter]
  refine h.mono fun e w'' hh => ?_
  obtain ⟨v, rfl, hk⟩ := hh
  exact hk
theorem goes_ {oi : Oper} {N : Option Tmp} {a : Act} {w : World} {K : Act → World → Prop} {f : FuncId} {fn : Func} {as_ : Array Operand} {ts : Array TypeId} (hf : P.funcs[f]? = some fn) (hname : (fn.name == "runtime.NumGoroutine") = false) (hb : fn.body.isSome = true) (args : Array Value)
    (hw : Region.wanted oi (yielded ops a.tmps) = true) (hN : oi.dst = N) (hop : oi.op = .call { callee := .value (.func f), args := as_, argTypes := ts }) (hargs : as_.map a.eval = args)
    (h : Calls P f args w fun e w' => ∃ v, e = .returned v ∧ K (a.put N v) w') : if Region.wanted oi (yielded ops a.tmps) = true then Oper.wp P oi a w K Q else K (a.put N undef) w := by
  refine call_ f args hw hN ?_ h
  have he := enters_ hf hname hb args w
  unfold execOp
  simp [hop, resolve, Deferred.ofValue, invoke, Act.eval, hargs, he]
end
end Go.Proofs.YtbdcghbafopjjaaGreatDoorW.PrintLast
end

section
namespace Go.Proofs.YtbdcghbafopjjaaGreatDoorW.PrintLast
open Go.Proofs.YtbdcghbafopjjaaGreatDoorW.PrintWords (Aside0)
def needsOf (md : Region.Mode) (o : Oper) : List Nat := (o.after.toList.filter (fun e => Region.binds md e)).map (fun e => e.on)
def clashOf (md : Region.Mode) (ops : Array Oper) (i : Nat) (oi : Oper) : List Nat := (List.range ops.size).filter fun j => !(j == i) && match ops[j]? with
  | some oj => !(oj.after.any (fun e => Region.binds md e && e.on == i) || oi.apart ops oj)
  | none => false
def rtab (md : Region.Mode) (ops : Array Oper) : Bool × List (List Nat × List Nat) := (Region.noSelect ops, (List.range ops.size).map fun i => match ops[i]? with
  | some o => (needsOf md o, clashOf md ops i o)
  | none => ([], []))
def readyAt (T : List (List Nat × List Nat)) (l : List Bool) (i : Nat) : Bool := !l.getD i true && match T[i]? with
  | some r => r.1.all (fun j => l.getD j false)
  | none => false
def readyT (T : List (List Nat × List Nat)) (l : List Bool) : List Nat := (List.range T.length).filter (readyAt T l)
def freeT (T : List (List Nat × List Nat)) (l : List Bool) (i : Nat) : Bool := match T[i]? with
  | some r => r.2.all (fun j => l.getD j true)
  | none => false
def closedT (T : List (List Nat × List Nat)) (l : List Bool) : Bool := (List.range T.length).all fun j => !l.getD j false || match T[j]? with
  | some r => r.1.all (fun k => l.getD k false)
  | none => true
def reachT (T : List (List Nat × List Nat)) (i : Nat) : Nat → Nat → Bool
  | 0, _ => false
  | fuel + 1, d => match T[d]? with
    | some r => r.1.any fun j => j == i || reachT T i fuel j
    | none => false
def lastT (T : List (List Nat × List Nat)) (l : List Bool) (ds : List Nat) (i : Nat) : Bool := ds.all fun d => l.getD d true || reachT T i T.length d
section
variable {md : Region.Mode} {ops : Array Oper} {T : Bool × List (List Nat × List Nat)} {l l' li lj lk : Array Bool} {ds : List Nat} {i j k : Nat}
theorem gd (l : Array Bool) (j : Nat) (b : Bool) : l.getD j b = l.toList.getD j b := by simp [Array.getD_eq_getD_getElem?, List.getD_eq_getElem?_getD]
theorem needs_all (o : Oper) (p : Nat → Bool) : o.after.all (fun e => !Region.binds md e || p e.on) = (needsOf md o).all p := by
  unfold needsOf
  rw [← Array.all_toList]
  induction o.after.toList with
  | nil => rfl
  | cons e r ih =>
    rw [List.all_cons, ih, List.filter_cons]
    cases h : Region.binds md e <;> simp
theorem needs_any (o : Oper) (p : Nat → Bool) : o.after.any (fun e => Region.binds md e && p e.on) = (needsOf md o).any p := by
  unfold needsOf
  rw [← Array.any_toList]
  induction o.after.toList with
  | nil => rfl
  | cons e r ih =>
    rw [List.any_cons, ih, List.filter_cons]
    cases h : Region.binds md e <;> simp
theorem rtab_length : (rtab md ops).2.length = ops.size := by simp [rtab]
theorem rtab_some {o : Oper} (h : ops[i]? = some o) : (rtab md ops).2[i]? = some (needsOf md o, clashOf md ops i o) := by
  have hi := (Array.getElem?_eq_some_iff.1 h).1
  unfold rtab
  rw [List.getElem?_map, List.getElem?_range hi, Option.map_some, h]
theorem rtab_none (h : ops[i]? = none) : (rtab md ops).2[i]? = none := by
  have hi : ops.size ≤ i := Array.getElem?_eq_none_iff.1 h
  exact List.getElem?_eq_none (by rw [rtab_length]; exact hi)
theorem readyAt_eq : readyAt (rtab md ops).2 l.toList i = (!l.getD i true && ((ops[i]?).map (·.after.all fun e => !Region.binds md e || l.getD e.on false)).getD false) := by
  unfold readyAt
  rw [gd]
  cases h : ops[i]? with
  | none => rw [rtab_none h]; rfl
  | some o =>
    rw [rtab_some h]
    simp only [Option.map_some, Option.getD_some]
    rw [← needs_all]
    simp only [gd]
theorem ready_eq : Region.ready md ops l = readyT (rtab md ops).2 l.toList := by
  unfold Region.ready readyT
  rw [rtab_length]
  refine List.filter_congr (fun i _ => ?_)
  rw [readyAt_eq]
theorem free_eq : Region.free md ops l i = freeT (rtab md ops).2 l.toList i := by
  unfold Region.free freeT
  cases h : ops[i]? with
  | none => rw [rtab_none h]
  | some oi =>
    rw [rtab_some h]
    simp only [clashOf]
    rw [List.all_filter]
    congr 1
    funext j
    rw [gd]
    cases hj : ops[j]? with
    | none => cases (j == i) <;> cases (l.toList.getD j true) <;> simp
    | some oj =>
      cases (j == i) <;> cases (l.toList.getD j true) <;> cases (oj.after.any (fun e => Region.binds md e && e.on == i) || oi.apart ops oj) <;> simp_all
theorem closed_eq : Region.closedB md ops l = closedT (rtab md ops).2 l.toList := by
  unfold Region.closedB closedT
  rw [rtab_length]
  congr 1
  funext j
  rw [gd]
  cases h : ops[j]? with
  | none => rw [rtab_none h]
  | some o =>
    rw [rtab_some h]
    simp only
    rw [← needs_all]
    simp only [gd]
theorem reach_eq : ∀ (fuel d : Nat), Region.reachB md ops i fuel d = reachT (rtab md ops).2 i fuel d
  | 0, _ => rfl
  | fuel + 1, d => by
    unfold Region.reachB reachT
    cases h : ops[d]? with
    | none => rw [rtab_none h]
    | some o =>
      rw [rtab_some h]
      simp only
      rw [← needs_any]
      congr 1
      funext e
      rw [reach_eq fuel]
theorem last_eq : Region.lastB md ops l ds i = lastT (rtab md ops).2 l.toList ds i := by
  unfold Region.lastB lastT
  rw [rtab_length]
  congr 1
  funext d
  rw [gd, reach_eq]
theorem readyAt_mem (h : readyAt T.2 l.toList i = true) (hT : rtab md ops = T) : (Region.ready md ops l).contains i = true := by
  subst hT
  rw [ready_eq]
  unfold readyT
  rw [List.contains_iff_mem, List.mem_filter, List.mem_range]
  refine ⟨?_, h⟩
  unfold readyAt at h
  rw [Bool.and_eq_true] at h
  cases hq : (rtab md ops).2[i]? with
  | none => rw [hq] at h; simp at h
  | some r => exact (List.getElem?_eq_some_iff.1 hq).1
theorem set_of (h : (l.toList.set i true == l'.toList) = true) : (l.setIfInBounds i true == l') = true := by
  rw [beq_iff_eq] at h ⊢
  apply Array.ext'
  rw [Array.toList_setIfInBounds]
  exact h
def anyT (T : Bool × List (List Nat × List Nat)) (l l' : List Bool) (i : Nat) : Bool := T.1 && freeT T.2 l i && readyAt T.2 l i && (l.set i true == l')
theorem any_of (hT : rtab md ops = T) (h : anyT T l.toList l'.toList i = true) : anyB md ops l l' i = true := by
  simp only [anyT, Bool.and_eq_true] at h
  obtain ⟨⟨⟨h1, h2⟩, h3⟩, h4⟩ := h
  have h5 := readyAt_mem h3 hT
  have h6 := set_of h4
  subst hT
  simp only [anyB, Bool.and_eq_true]
  exact ⟨⟨⟨h1, by rw [free_eq]; exact h2⟩, h5⟩, h6⟩
def takeT (T : Bool × List (List Nat × List Nat)) (ds : List Nat) (l l' : List Bool) (i : Nat) : Bool := T.1 && freeT T.2 l i && readyAt T.2 l i && closedT T.2 l && lastT T.2 l ds i && (l.set i true == l')
theorem take_of (hT : rtab md ops = T) (h : takeT T ds l.toList l'.toList i = true) : takeB md ops ds l l' i = true := by
  simp only [takeT, Bool.and_eq_true] at h
  obtain ⟨⟨⟨⟨⟨h1, h2⟩, h3⟩, h4⟩, h5⟩, h6⟩ := h
  have h7 := readyAt_mem h3 hT
  have h8 := set_of h6
  subst hT
  simp only [takeB, Bool.and_eq_true]
  exact ⟨⟨⟨⟨⟨h1, by rw [free_eq]; exact h2⟩, h7⟩, by rw [closed_eq]; exact h4⟩, by rw [last_eq]; exact h5⟩, h8⟩
theorem one_of (hT : rtab md ops = T) (h : (readyT T.2 l.toList == [i] && l.toList.set i true == l'.toList) = true) : readyB md ops l l' i = true := by
  simp only [Bool.and_eq_true] at h
  obtain ⟨h1, h2⟩ := h
  subst hT
  simp only [readyB, Bool.and_eq_true]
  exact ⟨by rw [ready_eq]; exact h1, set_of h2⟩
theorem done_of (hT : rtab md ops = T) (h : (readyT T.2 l.toList == []) = true) : (Region.ready md ops l == []) = true := by
  subst hT
  rw [ready_eq]
  exact h
def upM (B : List Nat) (d : Nat) : List Nat → Nat
  | [] => 0
  | n :: r => (2 ^ n ||| (if n < d then B.getD n 0 else 0)) ||| upM B d r
def waitsOk (T : List (List Nat × List Nat)) (B : List Nat) : Bool := (List.range T.length).all fun d => match T[d]? with
  | some r => (B.getD d 0 ||| upM B d r.1) == upM B d r.1
  | none => false
theorem upM_bit {B : List Nat} {d i : Nat} : ∀ {ns : List Nat}, (upM B d ns).testBit i = true → ∃ n ∈ ns, n = i ∨ (n < d ∧ (B.getD n 0).testBit i = true)
  | [], h => by simp [upM] at h
  | n :: r, h => by
    unfold upM at h
    rw [Nat.testBit_or, Nat.testBit_or, Bool.or_eq_true, Bool.or_eq_true] at h
    rcases h with (h | h) | h
    · rw [Nat.testBit_two_pow] at h
      exact ⟨n, List.mem_cons_self, .inl (by simpa using h)⟩
    · by_cases hn : n < d
      · rw [if_pos hn] at h
        exact ⟨n, List.mem_cons_self, .inr ⟨hn, h⟩⟩
      · rw [if_neg hn] at h
        simp at h
    · obtain ⟨m, hm, h2⟩ := upM_bit h
      exact ⟨m, List.mem_cons_of_mem _ hm, h2⟩
theorem reach_bit {T : List (List Nat × List Nat)} {B : List Nat} (hB : waitsOk T B = true) : ∀ (fuel d : Nat), d < fuel → d < T.length → (B.getD d 0).testBit i = true → reachT T i fuel d = true
  | 0, d, h, _, _ => by omega
  | fuel + 1, d, h, hd, hb => by
    have h1 := List.all_eq_true.1 hB d (List.mem_range.2 hd)
    cases hr : T[d]? with
    | none => rw [hr] at h1; simp at h1
    | some r =>
      rw [hr] at h1
      simp only [beq_iff_eq] at h1
      have h2 : (upM B d r.1).testBit i = true := by rw [← h1, Nat.testBit_or, hb, Bool.true_or]
      obtain ⟨n, hn, h3⟩ := upM_bit h2
      unfold reachT
      rw [hr]
      simp only
      rw [List.any_eq_true]
      refine ⟨n, hn, ?_⟩
      rcases h3 with rfl | ⟨h4, h5⟩
      · simp
      · rw [reach_bit hB fuel n (by omega) (by omega) h5, Bool.or_true]
def lastW (T : List (List Nat × List Nat)) (B : List Nat) (l : List Bool) (ds : List Nat) (i : Nat) : Bool := ds.all fun d => l.getD d true || (decide (d < T.length) && (B.getD d 0).testBit i)
def takeW (T : Bool × List (List Nat × List Nat)) (B : List Nat) (ds : List Nat) (l l' : List Bool) (i : Nat) : Bool := T.1 && freeT T.2 l i && readyAt T.2 l i && closedT T.2 l && lastW T.2 B l ds i && (l.set i true == l')
theorem take_ofW {B : List Nat} (hT : rtab md ops = T) (hB : waitsOk T.2 B = true) (h : takeW T B ds l.toList l'.toList i = true) : takeB md ops ds l l' i = true := by
  refine take_of hT ?_
  simp only [takeW, takeT, Bool.and_eq_true] at h ⊢
  obtain ⟨⟨⟨⟨⟨h1, h2⟩, h3⟩, h4⟩, h5⟩, h6⟩ := h
  refine ⟨⟨⟨⟨⟨h1, h2⟩, h3⟩, h4⟩, ?_⟩, h6⟩
  unfold lastW at h5
  unfold lastT
  rw [List.all_eq_true] at h5 ⊢
  intro d hd
  have h7 := h5 d hd
  rw [Bool.or_eq_true, Bool.and_eq_true, decide_eq_true_eq] at h7
  rcases h7 with h7 | ⟨h8, h9⟩
  · rw [h7, Bool.true_or]
  · rw [reach_bit hB _ d h8 h8 h9, Bool.or_true]
theorem with_tabW {P : Program} {Q : Exit → Act → World → Prop} {S : World → Prop} {n : Nat} {a : Act} {w : World} {B : List Nat} (hT : rtab md ops = T) (hB : waitsOk T.2 B = true) (h : Aside0 (rtab md ops = T) → Aside0 (waitsOk T.2 B = true) → wpAnyLast P md ops Q S ds n l a w) : wpAnyLast P md ops Q S ds n l a w := h ⟨hT⟩ ⟨hB⟩
end
def opsIn : Code → Nat → Option (Array Oper)
  | .region id ops _, k => if id == k then some ops else none
  | .seq a b, k => match opsIn a k with
    | some o => some o
    | none => opsIn b k
  | .cond _ a b, k => match opsIn a k with
    | some o => some o
    | none => opsIn b k
  | .block _ c, k => opsIn c k
  | .loop c, k => opsIn c k
  | .scope c, k => opsIn c k
  | .rangeFunc _ _ a b, k => match opsIn a k with
    | some o => some o
    | none => opsIn b k
  | _, _ => none
def opsOf (f : Func) (k : Nat) : Array Oper := ((f.body.bind fun c => opsIn c k)).getD #[]
end Go.Proofs.YtbdcghbafopjjaaGreatDoorW.PrintLast
end

section
namespace Go.Proofs.YtbdcghbafopjjaaGreatDoorW.PrintWords
open Go.RowKit
namespace Kd
section
variable {α : Type} {d : Kd α} {e base n cc g : Nat} {ok ok' okp S : Nat → Prop} {w w1 W W1 : World} {A : Option Addr} {u v v1 : Value} {xs : List α} {x : α} {c : List Value}
theorem S_N (h : Kd.S d e w base ok v xs) : N d e w base ok v xs := R_N (S_R h)
theorem N_mono (h : N d e w base ok v xs) (hok : ∀ k, ok k → ok' k) : N d e w base ok' v xs := by
  obtain ⟨h0, rows, hl, hR, hf⟩ := h
  exact ⟨fun k hk => hok k (h0 k hk), rows, hl, hR, fun j x c hx hc => FK_mono (hf j x c hx hc) (fun k hk => ⟨hok k hk.1, hk.2⟩)⟩
end
end Kd
end Go.Proofs.YtbdcghbafopjjaaGreatDoorW.PrintWords
end

section
namespace Go.Proofs.YtbdcghbafopjjaaGreatDoorW.PrintWords
open Go.RowKit
section
variable {P : Program} {d : Nat} {xs ys : Array Value} {f : Field} {fs : List Field} {a b : Value} {r s : Bool} {w : World}
theorem eqf_last (hn : (f.name == "_") = false) (ha : (part f.type xs f.offset).run P w = .ok a w) (hb : (part f.type ys f.offset).run P w = .ok b w) (he : (Op.equalIn d f.type a b).run P w = .ok r w) : (Op.eqFields d xs ys [f]).run P w = .ok r w := by
  have hn' : f.name ≠ "_" := by simpa using hn
  simp only [Op.eqFields, if_pos hn', Sem.run_bind, ha, hb, he, Result.andThen_ok]
  cases r <;> simp
theorem eqf_cons (hn : (f.name == "_") = false) (ha : (part f.type xs f.offset).run P w = .ok a w) (hb : (part f.type ys f.offset).run P w = .ok b w) (he : (Op.equalIn d f.type a b).run P w = .ok r w) (hr : (Op.eqFields d xs ys fs).run P w = .ok s w) : (Op.eqFields d xs ys (f :: fs)).run P w = .ok (r && s) w := by
  have hn' : f.name ≠ "_" := by simpa using hn
  rw [Op.eqFields]
  simp only [if_pos hn', Sem.run_bind, ha, hb, he, Result.andThen_ok]
  cases r
  · simp
  · simpa using hr
theorem eqA_of {t : TypeId} {fs : Array Field} (hu : P.underlying t = some (.struct fs)) (hp : P.stoodInHeld t = false) (h : (Op.eqFields d xs ys fs.toList).run P w = .ok r w) : (Op.equalIn (d + 1) t (.agg xs) (.agg ys)).run P w = .ok r w := by
  have hf : P.fieldsOf t = fs := by simp [Program.fieldsOf, hu]
  rw [run_equalIn_struct (P := P) w d t xs ys (by rw [hf]; exact hu) hp, hf]
  exact h
end
end Go.Proofs.YtbdcghbafopjjaaGreatDoorW.PrintWords
end

section
namespace Go.Proofs.YtbdcghbafopjjaaGreatDoorW.PrintMore
open Go.RowKit Go.Proofs.YtbdcghbafopjjaaGreatDoorW.PrintWords
namespace Kd
open Go.Proofs.YtbdcghbafopjjaaGreatDoorW.PrintWords.Kd
end Kd
namespace Kd
open Go.Proofs.YtbdcghbafopjjaaGreatDoorW.PrintWords.Kd
section
variable {α : Type} {d : Kd α} {e base g N : Nat} {ok : Nat → Prop} {W w1 : World} {u v : Value} {xs : List α}
end
end Kd
end Go.Proofs.YtbdcghbafopjjaaGreatDoorW.PrintMore
namespace Go.Proofs.YtbdcghbafopjjaaGreatDoorW.PrintWords
open Go.RowKit
section
variable {P : Program} {ops : Array Oper} {rest : List Oper} {o : Oper} {a : Act} {Q : Exit → Act → World → Prop} {W : World}
end
namespace Kd
section
variable {α : Type} {d : Kd α} {e base : Nat} {ok : Nat → Prop} {W w1 : World} {v : Value} {xs : List α}
end
section
variable {α : Type} {d : Kd α} {e base g n cap : Nat} {ok oki okp : Nat → Prop} {W : World} {xs : List α} {i : Int} {c : List Value}
end
section
variable {α : Type} {d : Kd α} {e base b b' g N : Nat} {ok ok1 : Nat → Prop} {W W2 w1 : World} {u v : Value} {xs ys : List α} {S : Nat → Prop}
end
end Kd
end Go.Proofs.YtbdcghbafopjjaaGreatDoorW.PrintWords
namespace Go.Proofs.YtbdcghbafopjjaaGreatDoorW.PrintWords
open Go.RowKit
namespace Kd
section
variable {α β : Type} {d : Kd α} {e base base' n m c g N' lo hi : Nat} {ok ok' S : Nat → Prop} {w W w1 : World} {A : Option Addr} {ad : Addr} {u v v1 : Value} {xs : List α}
theorem V_below (h : V d e W base ok v xs) (hb : Below W.heap.size W w1) : V d e w1 base ok v xs := V_map h (fun _ hf => F_below hf hb)
end
end Kd
end Go.Proofs.YtbdcghbafopjjaaGreatDoorW.PrintWords
end

section
namespace Go.Proofs
open Go.Shelf
def Tryz.lays167_ren : Go.Shelf.Ren := ⟨fun | 99 => 47 | 100 => 95 | 101 => 48 | 104 => 144 | 129 => 234 | 137 => 30 | 138 => 119 | 143 => 50 | 144 => 29 | 145 => 93 | 149 => 163 | 154 => 76 | 155 => 44 | 165 => 120 | 166 => 31 | 167 => 45 | 169 => 32 | 171 => 198 | 195 => 156 | 197 => 121 | 205 => 197 | 206 => 79 | 207 => 132 | 208 => 80 | 211 => 169 | 217 => 51 | 218 => 157 | 219 => 83 | 220 => 130 | 222 => 179 | 224 => 125 | 225 => 124 | 240 => 52 | 241 => 158 | 243 => 210 | 245 => 165 | 246 => 221 | 260 => 159 | 266 => 84 | 267 => 126 | 276 => 85 | 277 => 175 | 279 => 182 | 280 => 183 | 281 => 184 | 282 => 185 | 283 => 229 | 284 => 230 | 285 => 231 | 286 => 232 | 287 => 164 | 314 => 162 | 316 => 196 | 317 => 233 | 318 => 235 | 319 => 236 | 320 => 237 | 321 => 180 | 322 => 181 | 337 => 238 | 338 => 239 | n => n, fun | 21 => 21 | 24 => 34 | 37 => 43 | 46 => 122 | 51 => 146 | 53 => 126 | 59 => 101 | 70 => 45 | 72 => 47 | 75 => 50 | 76 => 51 | 80 => 53 | 105 => 116 | 119 => 169 | 127 => 72 | 138 => 171 | 139 => 172 | 143 => 213 | 145 => 215 | 146 => 160 | 164 => 95 | 167 => 175 | 168 => 177 | 171 => 230 | 173 => 233 | 210 => 195 | 212 => 236 | 213 => 237 | 232 => 240 | 233 => 241 | n => n, fun | n => n⟩
theorem Tryz.lays167 : Go.Proofs.Lays.n167 Tryz.prog Tryz.lays167_ren := {
  mixed := by kernel_rfl
  f167 := Tryz.func45.trans (congrArg some (by kernel_rfl))
  f240 := Tryz.func52.trans (congrArg some (by kernel_rfl))
  f276 := Tryz.func85.trans (congrArg some (by kernel_rfl))
  t0 := Tryz.underlying0
  a0 := Tryz.isAgg0
  z0 := Tryz.sizeOf0
  v0 := Tryz.zeroValue0
  t4 := Tryz.underlying4
  a4 := Tryz.isAgg4
  z4 := Tryz.sizeOf4
  v4 := Tryz.zeroValue4
  t5 := Tryz.underlying5
  a5 := Tryz.isAgg5
  z5 := Tryz.sizeOf5
  v5 := Tryz.zeroValue5
  t9 := Tryz.underlying9
  a9 := Tryz.isAgg9
  z9 := Tryz.sizeOf9
  v9 := Tryz.zeroValue9
  t20 := Tryz.underlying20
  a20 := Tryz.isAgg20
  z20 := Tryz.sizeOf20
  v20 := Tryz.zeroValue20
  t37 := Tryz.underlying43
  a37 := Tryz.isAgg43
  z37 := Tryz.sizeOf43
  v37 := Tryz.zeroValue43
  t70 := Tryz.underlying45
  a70 := Tryz.isAgg45
  z70 := Tryz.sizeOf45
  v70 := Tryz.zeroValue45
  t72 := Tryz.underlying47
  a72 := Tryz.isAgg47
  z72 := Tryz.sizeOf47
  v72 := Tryz.zeroValue47
  t75 := Tryz.underlying50
  a75 := Tryz.isAgg50
  z75 := Tryz.sizeOf50
  v75 := Tryz.zeroValue50
  t164 := Tryz.underlying95
  a164 := Tryz.isAgg95
  z164 := Tryz.sizeOf95
  v164 := Tryz.zeroValue95 }
theorem Tryz.Builder_Extra_167 : Builder.Extra Tryz.prog Tryz.lays167_ren := {
  sizeBuilder := by kernel_rfl
  liesBuilder := by kernel_rfl
  t5 := Tryz.underlying5
  a5 := Tryz.isAgg5
  z5 := Tryz.sizeOf5
  v5 := Tryz.zeroValue5
  infoByte := by kernel_rfl
  cellsByte := by kernel_rfl
  sizeByte := by kernel_rfl
  neB5 := by decide }
open Go.RowKit in
theorem Tryz.Builder_WriteByte (B b : Nat) (bs : List Value) (c : Int) (w : World) (h : Lib.IsBuilder 47 5 B b bs w) (hlen : bs.length + 1 ≤ 140737488355328) (hBw : B ≤ w.heap.size) :
    Calls Tryz.prog 45 #[.pointer (some ⟨b, 0, none⟩), .int .u8 c] w fun e w' => e = .returned .nilIface ∧ (Lib.BuilderAt 47 5 B b (.pointer (some ⟨b, 0, none⟩)) (bs ++ [.int .u8 c]) w' ∧ Below B w w') := Any.Builder_WriteByte Tryz.lays167 Tryz.Builder_Extra_167 B b bs c w h hlen hBw
def Tryz.lays144_ren : Go.Shelf.Ren := ⟨fun | 144 => 29 | 143 => 50 | 219 => 83 | 217 => 51 | 225 => 124 | 224 => 125 | 267 => 126 | 266 => 84 | 314 => 162 | n => n, fun | 9 => 9 | 4 => 4 | 3 => 3 | 5 => 5 | 46 => 122 | 146 => 160 | 51 => 146 | n => n, fun | 1 => 0 | n => n⟩
theorem Tryz.lays144 : Go.Proofs.Lays.n144 Tryz.prog Tryz.lays144_ren := {
  mixed := by kernel_rfl
  f143 := Tryz.func50.trans (congrArg some (by kernel_rfl))
  f144 := Tryz.func29.trans (congrArg some (by kernel_rfl))
  f217 := Tryz.func51.trans (congrArg some (by kernel_rfl))
  f219 := Tryz.func83.trans (congrArg some (by kernel_rfl))
  f224 := Tryz.func125.trans (congrArg some (by kernel_rfl))
  f225 := Tryz.func124.trans (congrArg some (by kernel_rfl))
  f266 := Tryz.func84.trans (congrArg some (by kernel_rfl))
  f267 := Tryz.func126.trans (congrArg some (by kernel_rfl))
  f314 := Tryz.func162.trans (congrArg some (by kernel_rfl))
  t3 := Tryz.underlying3
  a3 := Tryz.isAgg3
  z3 := Tryz.sizeOf3
  v3 := Tryz.zeroValue3
  t4 := Tryz.underlying4
  a4 := Tryz.isAgg4
  z4 := Tryz.sizeOf4
  v4 := Tryz.zeroValue4
  t5 := Tryz.underlying5
  a5 := Tryz.isAgg5
  z5 := Tryz.sizeOf5
  v5 := Tryz.zeroValue5
  t9 := Tryz.underlying9
  a9 := Tryz.isAgg9
  z9 := Tryz.sizeOf9
  v9 := Tryz.zeroValue9
  t46 := Tryz.underlying122
  a46 := Tryz.isAgg122
  z46 := Tryz.sizeOf122
  v46 := Tryz.zeroValue122
  t51 := Tryz.underlying146
  a51 := Tryz.isAgg146
  z51 := Tryz.sizeOf146
  v51 := Tryz.zeroValue146
  t146 := Tryz.underlying160
  a146 := Tryz.isAgg160
  z146 := Tryz.sizeOf160
  v146 := Tryz.zeroValue160
  g1 := by kernel_rfl }
open Go.RowKit Go.Lib in
theorem Tryz.strings_Contains_one (s : ByteArray) (c : UInt8) (w : World) :
    Calls Tryz.prog 29 #[.string s, .string ⟨#[c]⟩] w fun e w' => e = .returned (.bool (decide (0 ≤ Lib.indexByte s.data.toList c))) ∧ w' = w := Any.strings_Contains_one Tryz.lays144 s c w
end Go.Proofs
end

section
namespace Go.Proofs.YtbdcghbafopjjaaGreatDoor.Pl
open Go
def normF : Bool → List UInt8 → List UInt8
  | _, [] => []
  | b, c :: r => if b = true ∧ c = 10 then normF false r else if c = 13 then 10 :: normF true r else c :: normF false r
def normL (l : List UInt8) : List UInt8 := normF false l
theorem normL_nil : normL [] = [] := rfl
theorem normL_ne {c : UInt8} {r : List UInt8} (h : c ≠ 13) : normL (c :: r) = c :: normL r := by simp [normL, normF, h]
theorem normL_13_10 {r : List UInt8} : normL (13 :: 10 :: r) = 10 :: normL r := by simp [normL, normF]
theorem normL_13_ne {d : UInt8} {r : List UInt8} (h : d ≠ 10) : normL (13 :: d :: r) = 10 :: normL (d :: r) := by simp [normL, normF, h]
theorem normL_13_end : normL [13] = [10] := rfl
theorem normF_no13 (l : List UInt8) : ∀ b, (13 : UInt8) ∉ normF b l := by
  induction l with
  | nil => intro b; simp [normF]
  | cons c r ih =>
    intro b
    simp only [normF]
    split
    · exact ih _
    · split
      · simp [ih]
      · rename_i h; simp only [List.mem_cons, not_or]; exact ⟨fun e => h e.symm, ih _⟩
theorem normL_no13 (l : List UInt8) : (13 : UInt8) ∉ normL l := normF_no13 l false
theorem normL_of_no13 : ∀ {l : List UInt8}, (13 : UInt8) ∉ l → normL l = l
  | [], _ => rfl
  | c :: r, h => by
    have h1 : c ≠ 13 := fun e => h (by simp [e])
    rw [normL_ne h1, normL_of_no13 (fun e => h (by simp [e]))]
end Go.Proofs.YtbdcghbafopjjaaGreatDoor.Pl
end

section
namespace Go.Proofs.YtbdcghbafopjjaaGreatDoor.Hand
open Go.RowKit Go.Proofs.YtbdcghbafopjjaaGreatDoor.Pl
section
variable {P : Program} {a : Act} {w : World} {Q : Exit → Act → World → Prop}
end
theorem byteCells_snoc (acc : List UInt8) (c : UInt8) : Lib.byteCells acc ++ [.int .u8 (c.toNat : Int)] = Lib.byteCells (acc ++ [c]) := by
  simp [Lib.byteCells]
def NormJ (s : ByteArray) (w : World) (a' : Act) (wr : World) : Prop :=
  ∃ (pos : Nat) (acc : List UInt8) (u1 u5 u6 u7 u8 u9 u10 u11 u12 u13 u14 u15 u16 u17 u18 u19 u20 u21 u22 u23 u24 u25 u26 u27 u28 u29 u30 u31 u32 u33 u34 : Value),
    a' = { tmps := #[.string s, u1, .string ⟨#[]⟩, .pointer (some ⟨w.heap.size, 0, none⟩), .int .i64 pos, u5, u6, u7, u8, u9, u10, u11, u12, u13, u14, u15, u16, u17, u18, u19, u20, u21, u22, u23, u24, u25, u26, u27, u28, u29, u30, u31, u32, u33, u34], defers := [] } ∧
    Lib.IsBuilder 47 5 w.heap.size w.heap.size (Lib.byteCells acc) wr ∧ Below w.heap.size w wr ∧ pos ≤ s.size ∧ acc.length ≤ pos ∧ acc ++ normL (s.data.toList.drop pos) = normL s.data.toList
set_option maxHeartbeats 400000 in
theorem norm_any (s : ByteArray) (w : World) (hs : s.size ≤ 35184372088832) :
    Calls Tryz.prog 23 #[.string s] w fun e w' => e = .returned (.string ⟨(normL s.data.toList).toArray⟩) ∧ Below w.heap.size w w' := by
  go_enter Tryz.func23, Tryz.ntmps23
  go_wp2
  refine wp_scope_at 0 (NormJ s w) (fun a' _ => s.size - (intOf (a'.tmps.getD 4 undef)).toNat) rfl ?_ ?_
  · intro hB
    have HB := Lib.hid hB
    clear hB
    go_wp2
    refine wp_label_k (by assumption) (HB.out _ _ ?_)
    refine ⟨0, [], undef, undef, undef, undef, undef, undef, undef, undef, undef, undef, undef, undef, undef, undef, undef, undef, undef, undef, undef, undef, undef, undef, undef, undef, undef, undef, undef, undef, undef, undef, undef, rfl, Lib.fresh_isBuilder 47 5 w, (Below.refl _ w).alloc (Nat.le_refl _) _, by omega, by simp, by simp⟩
  · rintro a' wr ⟨pos, acc, u1, u5, u6, u7, u8, u9, u10, u11, u12, u13, u14, u15, u16, u17, u18, u19, u20, u21, u22, u23, u24, u25, u26, u27, u28, u29, u30, u31, u32, u33, u34, rfl, hI, hb, hp, hl, hacc⟩
    have hbs := hb.size
    by_cases hlt : pos < s.size
    · by_cases h13 : s[pos] = 13
      · have h13' : (((s[pos].toNat : Int)) != 13) = false := by rw [h13]; rfl
        have hd := drop_cons s pos hlt
        rw [h13] at hd
        have HD := Lib.hid hd
        have HA := Lib.hid hacc
        clear hd hacc h13
        go_wp2_with (go_at_call 45; refine (Tryz.Builder_WriteByte w.heap.size w.heap.size _ 10 wr hI (by rw [Lib.byteCells_length]; omega) hbs).mono ?_)
        rintro e w1 ⟨rfl, h1, b1⟩
        have HW := Lib.hid (hb.trans b1)
        have H1 := Lib.hid h1
        clear h1 b1 hb hI hbs
        go_wp2
        · rename_i hq1 hq2 hq3
          have hlt1 : pos + 1 < s.size := by omega
          have h10 : s[pos + 1] = 10 := by
            have := beq_iff_eq.1 hq3; apply UInt8.toNat_inj.1; exact Int.ofNat_inj.1 this
          have hd1 := drop_cons s (pos + 1) hlt1
          go_step3
          refine ⟨rfl, ⟨pos + 2, acc ++ [10], _, _, _, _, _, _, _, _, _, _, _, _, _, _, _, _, _, _, _, _, _, _, _, _, _, _, _, _, _, _, _, rfl, ?_, HW.out, by omega, by simp; omega, ?_⟩, ?_⟩
          · exact Or.inr (by rw [← byteCells_snoc]; exact H1.out)
          · rw [← HA.out, HD.out, hd1, h10, normL_13_10]; simp
          · simp [intOf]; omega
        · rename_i hq1 hq2 hq3
          have hlt1 : pos + 1 < s.size := by omega
          have h10 : s[pos + 1] ≠ 10 := by
            intro h; rw [h] at hq3; simp at hq3
          have hd1 := drop_cons s (pos + 1) hlt1
          go_step3
          refine ⟨rfl, ⟨pos + 1, acc ++ [10], _, _, _, _, _, _, _, _, _, _, _, _, _, _, _, _, _, _, _, _, _, _, _, _, _, _, _, _, _, _, _, rfl, ?_, HW.out, by omega, by simp; omega, ?_⟩, ?_⟩
          · exact Or.inr (by rw [← byteCells_snoc]; exact H1.out)
          · rw [← HA.out, HD.out, hd1, normL_13_ne h10]; simp
          · simp [intOf]; omega
        · have hd1 : s.data.toList.drop (pos + 1) = [] := List.drop_eq_nil_of_le (by simp; omega)
          go_step3
          refine ⟨rfl, ⟨pos + 1, acc ++ [10], _, _, _, _, _, _, _, _, _, _, _, _, _, _, _, _, _, _, _, _, _, _, _, _, _, _, _, _, _, _, _, rfl, ?_, HW.out, by omega, by simp; omega, ?_⟩, ?_⟩
          · exact Or.inr (by rw [← byteCells_snoc]; exact H1.out)
          · rw [← HA.out, HD.out, hd1, normL_13_end, normL_nil]; simp
          · simp [intOf]; omega
      · have h13' : (((s[pos].toNat : Int)) != 13) = true := by
          rw [bne_iff_ne]; intro h; apply h13; apply UInt8.toNat_inj.1; exact Int.ofNat_inj.1 h
        have hd := drop_cons s pos hlt
        have HD := Lib.hid hd
        have HA := Lib.hid hacc
        clear hd hacc
        go_wp2_with (go_at_call 45; refine (Tryz.Builder_WriteByte w.heap.size w.heap.size _ _ wr hI (by rw [Lib.byteCells_length]; omega) hbs).mono ?_)
        rintro e w1 ⟨rfl, h1, b1⟩
        have HW := Lib.hid (hb.trans b1)
        have H1 := Lib.hid h1
        clear h1 b1 hb hI hbs
        go_wp2
        go_step3
        refine ⟨rfl, ⟨pos + 1, acc ++ [s[pos]], _, _, _, _, _, _, _, _, _, _, _, _, _, _, _, _, _, _, _, _, _, _, _, _, _, _, _, _, _, _, _, rfl, ?_, HW.out, by omega, by simp; omega, ?_⟩, ?_⟩
        · exact Or.inr (by rw [← byteCells_snoc]; exact H1.out)
        · rw [← HA.out, HD.out, normL_ne h13]; simp
        · simp [intOf]; omega
    · obtain rfl : pos = s.size := by omega
      have HA := Lib.hid hacc
      clear hacc
      go_wp2_with (go_at_call 32; refine (Tryz.Builder_String_any w.heap.size w.heap.size acc wr hI hbs).mono ?_)
      rintro e w1 ⟨rfl, b1⟩
      go_wp2
      simp only [Exit.jump]
      go_ret
      have he : acc = normL s.data.toList := by rw [← HA.out, List.drop_eq_nil_of_le (by simp), normL_nil, List.append_nil]
      rw [he]
      exact ⟨rfl, hb.trans b1⟩
end Go.Proofs.YtbdcghbafopjjaaGreatDoor.Hand
end

section
namespace Go.Proofs.YtbdcghbafopjjaaGreatDoor.Pl
theorem begR_app (m : List UInt8) (low : List UInt8) : ∀ r, low.length ≤ r.length → begR (r ++ m) low = begR r low := by
  induction low with
  | nil => intro r _; cases r <;> simp [begR] <;> (cases m <;> rfl)
  | cons d low ih =>
    intro r h
    cases r with
    | nil => simp at h
    | cons c r => simp only [List.cons_append, begR]; rw [ih r (by simpa using h)]
theorem stopAt_app (m r : List UInt8) (h : 0 < r.length) : stopAt (r ++ m) = stopAt r := by
  cases r with
  | nil => simp at h
  | cons c r => rfl
theorem drop_app {r m : List UInt8} {n : Nat} (h : n ≤ r.length) : (r ++ m).drop n = r.drop n ++ m := by
  rw [List.drop_append]; rw [show n - r.length = 0 by omega]; rfl
theorem endsL_app (m r : List UInt8) (h : 9 ≤ r.length) : endsL (r ++ m) scriptL = endsL r scriptL := by
  unfold endsL
  have e : scriptL.length = 6 := rfl
  rw [begR_app m _ r (by simp; omega), drop_app (by omega), begR_app m _ _ (by simp [e]; omega), drop_app (by omega), stopAt_app _ _ (by simp; omega)]
theorem wordL_app (m r o : List UInt8) (h : o.length + 7 ≤ r.length) : wordL (r ++ m) o = wordL r o := by
  unfold wordL
  have e : scriptL.length = 6 := rfl
  rw [begR_app m _ r (by simp; omega), drop_app (by omega), stopAt_app _ _ (by simp; omega)]
theorem stepF_app (m r : List UInt8) (st ct : Nat) (h : 9 ≤ r.length) : stepF st ct (r ++ m) = stepF st ct r := by
  have h1 := endsL_app m r h
  have h2 := begR_app m [60, 33, 45, 45] r (by simp; omega)
  have h3 := wordL_app m r [60] (by simp; omega)
  have h4 := wordL_app m r [60, 47] (by simp; omega)
  cases r with
  | nil => simp at h
  | cons c r =>
    rw [List.cons_append] at h1 h2 h3 h4 ⊢
    simp only [stepF, h1, h2, h3, h4]
theorem endsL_length {r : List UInt8} (h : endsL r scriptL = true) : 9 ≤ r.length := by
  simp only [endsL, Bool.and_eq_true] at h
  have h2 := h.2
  have e : scriptL.length = 6 := rfl
  have : r.drop (2 + scriptL.length) ≠ [] := by intro e'; rw [e'] at h2; simp [stopAt] at h2
  have := List.length_pos_iff.2 this
  simp at this; omega
theorem stepF_none {st ct : Nat} {r : List UInt8} (h : stepF st ct r = none) : r = [] ∨ (st ≠ 2 ∧ endsL r scriptL = true) := by
  cases r with
  | nil => exact .inl rfl
  | cons c r =>
    right
    simp only [stepF] at h
    repeat' split at h
    all_goals first | (cases h; done) | assumption
theorem findL_app (m : List UInt8) (f : Nat) : ∀ st ct r, r.length ≤ f → (findL st ct r).1 < r.length → (findL st ct r).1 + 9 ≤ r.length ∧ findL st ct (r ++ m) = findL st ct r := by
  induction f with
  | zero => intro st ct r h h1; omega
  | succ f ih =>
    intro st ct r h h1
    cases hs : stepF st ct r with
    | none =>
      have e := findL_none hs
      rw [e] at h1 ⊢
      simp only at h1 ⊢
      rcases stepF_none hs with h2 | h2
      · subst h2; simp at h1
      · have h9 := endsL_length h2.2
        exact ⟨by omega, findL_none (by rw [stepF_app m r st ct h9]; exact hs)⟩
    | some x =>
      obtain ⟨n, st', ct'⟩ := x
      have ha := stepF_adv hs
      have e := findL_some hs
      rw [e] at h1 ⊢
      simp only at h1 ⊢
      have := ih st' ct' (r.drop n) (by simp; omega) (by simp; omega)
      simp only [List.length_drop] at this
      refine ⟨by omega, ?_⟩
      rw [findL_some (n := n) (st' := st') (ct' := ct') (by rw [stepF_app m r st ct (by omega)]; exact hs), drop_app ha.2, this.2]
end Go.Proofs.YtbdcghbafopjjaaGreatDoor.Pl
end

section
namespace Go.Proofs.YtbdcghbafopjjaaGreatDoor.Hand
open Go Go.RowKit Go.Proofs.YtbdcghbafopjjaaGreatDoor.Pl Go.Proofs.YtbdcghbafopjjaaGreatDoor.Pb Go.Proofs.YtbdcghbafopjjaaGreatDoor.Pure
noncomputable def tksF : Nat → List UInt8 → List Tk
  | 0, _ => []
  | f + 1, l => if l = [] then [] else (tokL l).1.toList ++ tksF f (tokL l).2
theorem tksF_more (f : Nat) : ∀ l f', l.length ≤ f → l.length ≤ f' → tksF f l = tksF f' l := by
  induction f with
  | zero =>
    intro l f' h _
    obtain rfl := List.eq_nil_of_length_eq_zero (Nat.le_zero.1 h)
    cases f' <;> simp [tksF]
  | succ f ih =>
    intro l f' h h'
    cases f' with
    | zero =>
      obtain rfl := List.eq_nil_of_length_eq_zero (Nat.le_zero.1 h')
      simp [tksF]
    | succ f' =>
      simp only [tksF]
      by_cases hl : l = []
      · simp [hl]
      · have := tokL_lt hl
        rw [if_neg hl, if_neg hl, ih _ f' (by omega) (by omega)]
noncomputable def tksL (l : List UInt8) : List Tk := tksF l.length l
theorem tksL_nil : tksL [] = [] := rfl
theorem tksL_eq {l : List UInt8} (h : l ≠ []) : tksL l = (tokL l).1.toList ++ tksL (tokL l).2 := by
  have hp := List.length_pos_iff.2 h
  have := tokL_lt h
  unfold tksL
  obtain ⟨n, hn⟩ : ∃ n, l.length = n + 1 := ⟨l.length - 1, by omega⟩
  rw [hn, tksF, if_neg h, tksF_more n _ _ (by omega) (Nat.le_refl _)]
noncomputable def tokA (st : Nat) (name l : List UInt8) : List Tk := if 4 < st then [] else joinL ((restL st name l).1 ++ tksL (restL st name l).2)
end Go.Proofs.YtbdcghbafopjjaaGreatDoor.Hand
end

section
namespace Go.Proofs.YtbdcghbafopjjaaGreatDoor.Hand
open Go Go.RowKit Go.Proofs.YtbdcghbafopjjaaGreatDoor.Pl Go.Proofs.YtbdcghbafopjjaaGreatDoor.Pb
def kyC (c : UInt8) : Bool := (decide (65 ≤ c.toNat) && decide (c.toNat ≤ 90)) || (decide (97 ≤ c.toNat) && decide (c.toNat ≤ 122)) || (decide (48 ≤ c.toNat) && decide (c.toNat ≤ 57))
def hdC : List UInt8 → Bool
  | [] => false
  | c :: _ => (decide (65 ≤ c.toNat) && decide (c.toNat ≤ 90)) || (decide (97 ≤ c.toNat) && decide (c.toNat ≤ 122))
def keyOk (l : List UInt8) : Bool := decide ((kyL l).length ≤ 32) && ((kyL l).dropLast.all kyC && (hdC (kyL l) && (match (kyL l).getLast? with | some c => kyC c || c == 59 | none => false)))
def keysOk (T : List UInt8) : Bool := keyOk (linesOf T).1 && (linesOf T).2.all keyOk
set_option maxRecDepth 1000000 in
theorem names_keys : keysOk namesL = true := by kernel_rfl
theorem keys_all {T : List UInt8} (h : keysOk T = true) (p : Nat) (hp : St T p) : keyOk (lnT T p) = true := by
  unfold keysOk at h
  rw [Bool.and_eq_true, List.all_eq_true] at h
  rcases hp with rfl | ⟨q, rfl, hq⟩
  · rw [lines_head]; exact h.1
  · exact h.2 _ (lines_mem T q hq)
structure KeyP (k : List UInt8) : Prop where
  le : k.length ≤ 32
  pos : k ≠ []
  inner : ∀ c ∈ k.dropLast, kyC c = true
  head : hdC k = true
  last : ∃ c, k.getLast? = some c ∧ (kyC c = true ∨ c = 59)
theorem key_facts {k : List UInt8} (h : isKey namesL k) : KeyP k := by
  obtain ⟨p, h1, rfl⟩ := h
  have := keys_all names_keys p h1
  unfold keyOk at this
  rw [Bool.and_eq_true, Bool.and_eq_true, Bool.and_eq_true, decide_eq_true_eq, List.all_eq_true] at this
  obtain ⟨g1, g2, g3, g4⟩ := this
  change (kyT namesL p).length ≤ 32 at g1
  change hdC (kyT namesL p) = true at g3
  refine ⟨g1, ?_, g2, g3, ?_⟩
  · intro e; rw [e] at g3; cases g3
  · change (match (kyT namesL p).getLast? with | some c => kyC c || c == 59 | none => false) = true at g4
    split at g4
    · rename_i c hc
      refine ⟨c, hc, ?_⟩
      simpa using g4
    · cases g4
end Go.Proofs.YtbdcghbafopjjaaGreatDoor.Hand
end

section
namespace Go.Proofs.YtbdcghbafopjjaaGreatDoor.Hand
open Go Go.RowKit Go.Proofs.YtbdcghbafopjjaaGreatDoor.Pl Go.Proofs.YtbdcghbafopjjaaGreatDoor.Pb Go.Proofs.YtbdcghbafopjjaaGreatDoor.Pure
theorem tks_bd : ∀ n (l : List UInt8), l.length ≤ n → (∀ t ∈ tksL l, txB t ≤ 24 * n) ∧ (tksL l).length ≤ l.length := by
  intro n
  induction n with
  | zero =>
    intro l h
    obtain rfl := List.eq_nil_of_length_eq_zero (Nat.le_zero.1 h)
    exact ⟨fun t h => (nomatch h), Nat.zero_le _⟩
  | succ n ih =>
    intro l h
    by_cases hl : l = []
    · subst hl; exact ⟨fun t h => (nomatch h), Nat.zero_le _⟩
    · have h1 := tok_bd l
      have h3 := tokL_lt hl
      have h4 := ih (tokL l).2 (by omega)
      have h5 : ((tokL l).1.toList).length ≤ 1 := by cases (tokL l).1 <;> simp
      rw [tksL_eq hl]
      refine ⟨fun t ht => ?_, by rw [List.length_append]; omega⟩
      rcases List.mem_append.1 ht with ht | ht
      · have := (h1 t (by simpa using ht)).1; omega
      · have := h4.1 t ht; omega
end Go.Proofs.YtbdcghbafopjjaaGreatDoor.Hand
end

section
namespace Go.Proofs.YtbdcghbafopjjaaGreatDoor.Hand
open Go Go.RowKit Go.Proofs.YtbdcghbafopjjaaGreatDoor.K0 Go.Proofs.YtbdcghbafopjjaaGreatDoor.Pl Go.Proofs.YtbdcghbafopjjaaGreatDoor.Pb Go.Proofs.YtbdcghbafopjjaaGreatDoor.Sa Go.Proofs.YtbdcghbafopjjaaGreatDoor.St Go.Proofs.YtbdcghbafopjjaaGreatDoor.Pure Go.Proofs.YtbdcghbafopjjaaGreatDoorW.PrintWords Go.Proofs.YtbdcghbafopjjaaGreatDoorW.PrintLast Go.Proofs.YtbdcghbafopjjaaGreatDoorW.PrintMore
noncomputable def tokY (st : Nat) (name s : List UInt8) : List Tk := (restL st name s).1 ++ tksL (restL st name s).2
theorem tokY_bd {st : Nat} {name s : List UInt8} (hs : s.length ≤ 30000) : (∀ t ∈ tokY st name s, txB t ≤ 1000000) ∧ (tokY st name s).length ≤ 100000 := by
  have h1 := rest_bd st name s
  have h2 := restL_le st name s
  have h3 := tks_bd s.length (restL st name s).2 h2
  unfold tokY
  refine ⟨fun t ht => ?_, by rw [List.length_append]; omega⟩
  rcases List.mem_append.1 ht with h | h
  · have := h1.1 t h; omega
  · have := h3.1 t h; omega
set_option maxRecDepth 100000 in
set_option maxHeartbeats 16000000 in
theorem tokA_c (s : List UInt8) (hs : s.length ≤ 30000) (name : List UInt8) (hl : name.length ≤ 100000) (st : Nat) (h4 : st ≤ 4) (w : World) (hGl : Glob w) :
    Calls Tryz.prog 13 #[.string (B s), .int .i64 (st : Int), .string (B name)] w fun e w' => (∃ v, e = .returned v ∧ Kd.V tkK 28 w' w.heap.size (fun k => w.heap.size ≤ k ∧ k < w'.heap.size) v ((tokA st name s).map ofK)) ∧ Below w.heap.size w w' := by
  have HG := Lib.hid hGl
  have HS := Lib.hid hs
  have NN := Lib.hid (fun p (hp : p ≤ s.length) r (h : tokL (s.drop p) = (none, r)) W hG => next_none (by omega) hp h W hG)
  have NS := Lib.hid (fun p (hp : p ≤ s.length) t r (h : tokL (s.drop p) = (some t, r)) k0 n0 x0 a0 s0 (ht : ofK t = ⟨k0, n0, x0, a0, s0⟩) W hG => next_some (by omega) hp h ht W hG)
  have RS : Hid (∀ W, Glob W → Calls Tryz.prog 34 #[.string (B s), .int .i64 0, .int .i64 (st : Int), .string (B name)] W fun e w' => (∃ v, e = .returned (.tuple #[v, .int .i64 ((s.length - (restL st name s).2.length : Nat) : Int)]) ∧
      Kd.N tkK 28 w' W.heap.size (fun k => W.heap.size ≤ k) v ((restL st name s).1.map ofK)) ∧ Below W.heap.size W w') := Lib.hid (fun W hG => by
    obtain ⟨k, hk⟩ := (rest_ev (s := s) (p := 0) name (by omega) (Nat.zero_le _) hl h4).rounds
    rw [List.drop_zero, show ((0 : Nat) : Int) = 0 from rfl] at hk
    refine (tok_Rest.calls k _ _ _ _ _ _ W hG hk).mono ?_
    rintro e w' ⟨v, he, hR, hb⟩
    exact ⟨⟨v, he, Kd.N_mono (Kd.S_N (Kd.S_bound hR)) (fun k hk => hk.2.1)⟩, hb⟩)
  have JN := Lib.hid (fun A c (hb : (∀ t ∈ tokY st name s, txB t ≤ 1000000) ∧ (tokY st name s).length ≤ 100000) W (hw : w.heap.size ≤ W.heap.size) hv => join_c A c (tokY st name s) W w.heap.size hw hv hb.2 hb.1)
  have HBD := Lib.hid (tokY_bd (st := st) (name := name) hs)
  have HD : Hid (tokA st name s = joinL (tokY st name s)) := Lib.hid (by unfold tokA tokY; rw [if_neg (by omega)])
  have hrs := restL_suf st name s
  have hr2 := (rest_bd st name s).2
  have hY : tokY st name s = (restL st name s).1 ++ tksL (restL st name s).2 := rfl
  obtain ⟨⟨R1, R2⟩, hR⟩ : ∃ R, restL st name s = R := ⟨_, rfl⟩
  rw [hR] at RS hrs hr2 hY
  dsimp only at RS hrs hr2 hY
  obtain ⟨q0, hq0⟩ : ∃ q, s.length - R2.length = q := ⟨_, rfl⟩
  have hqd := suf_drop hrs
  rw [hq0] at RS hqd
  have HQ0 : Hid (tokY st name s = R1 ++ tksL (s.drop q0)) := Lib.hid (by rw [hY, hqd])
  have hrl := hrs.length_le
  obtain ⟨a, ha⟩ : ∃ a, B s = a := ⟨_, rfl⟩
  have HSZ : Hid (a.size = s.length) := Lib.hid (by rw [← ha, size_B])
  have hqa : q0 ≤ a.size := by have := HSZ.out; omega
  have HRL := Lib.hid hr2
  obtain ⟨b, hb⟩ : ∃ b, B name = b := ⟨_, rfl⟩
  rw [ha] at NN NS RS ⊢
  rw [hb] at RS ⊢
  have g1 : decide ((st : Int) < 0) = false := decide_eq_false (by omega)
  have g2 : decide ((st : Int) > 4) = false := decide_eq_false (by omega)
  have g3 : decide (4 < (st : Int)) = false := decide_eq_false (by omega)
  have g4 : decide (4 < st) = false := decide_eq_false (by omega)
  clear hs hGl ha hl hrs hr2 hY hR hq0 hqd hrl hb h4
  go_enter Tryz.func13, Tryz.ntmps13
  go_wp2_with fail
  refine (RS.out _ HG.out).mono ?_
  rintro e w1 ⟨⟨v0, rfl, hN⟩, hb⟩
  have H0 : Hid (DrI w w1 v0 R1) := Lib.hid ⟨HG.out.step hb, hN, hb⟩
  clear hb hN RS
  go_wp2_with fail
  go_loopw [7, 8] (fun v3 v4 wx => ∃ (p : Nat) (X : List Tk), v4 = .int .i64 (p : Int) ∧ p ≤ a.size ∧ Hid (X.length ≤ 2 + p) ∧ Hid (DrI w wx v3 X) ∧ Hid (tokY st name s = X ++ tksL (s.drop p))) (fun _ v4 _ => a.size - (intOf v4).toNat)
  case atStart => exact ⟨q0, R1, rfl, hqa, Lib.hid (by have := HRL.out; omega), H0, HQ0⟩
  case round =>
    clear H0 HQ0
    obtain ⟨p, X, rfl, hp, HXL, HI, HQ⟩ := hrel
    by_cases hlt : p < a.size
    · have q1 : decide ((p : Int) < (a.size : Int)) = true := decide_eq_true (by omega)
      have hps : p ≤ s.length := by have := HSZ.out; omega
      have hne : s.drop p ≠ [] := by rw [Ne, List.drop_eq_nil_iff]; have := HSZ.out; omega
      have hdq := tksL_eq hne
      have hsf := tokL_suf (s.drop p)
      have hlt2 := tokL_lt hne
      obtain ⟨⟨o, r⟩, hR⟩ : ∃ R, tokL (s.drop p) = R := ⟨_, rfl⟩
      rw [hR] at hdq hsf hlt2
      dsimp only at hsf hlt2
      have hrs := hsf.trans (List.drop_suffix _ _)
      have hrl := hrs.length_le
      rw [List.length_drop] at hlt2
      obtain ⟨q, hq⟩ : ∃ q, s.length - r.length = q := ⟨_, rfl⟩
      have hqd : s.drop q = r := by rw [← hq]; exact suf_drop hrs
      have hq1 : p < q := by omega
      have hq2 : q ≤ a.size := by have := HSZ.out; omega
      obtain ⟨A1, c1, hv3⟩ := Kd.N_slice HI.out.row
      rw [List.length_map] at hv3
      have hxl := HXL.out
      obtain ⟨m, hm⟩ : ∃ m, X.length = m := ⟨_, rfl⟩
      rw [hm] at hv3 hxl
      subst hv3
      cases o with
      | none =>
        have N1 := Lib.hid (NN.out p hps r hR)
        rw [hq] at N1
        have HQ2 : Hid (tokY st name s = X ++ tksL (s.drop q)) := Lib.hid (by rw [HQ.out, hdq, hqd]; rfl)
        clear hdq hsf hlt2 hrs hrl hq hqd hR hne hps hm hxl
        go_wp2_with fail
        refine (N1.out _ HI.out.glob).mono ?_
        rintro e w2 ⟨⟨A3, c3, rfl⟩, hb⟩
        replace HI := Lib.hid (HI.out.call hb)
        clear hb N1
        go_wp2_with fail
        go_roundw
        case rel => exact ⟨q, X, by go_num, hq2, Lib.hid (by have := HXL.out; omega), Lib.hid (HI.out.alloc _), HQ2⟩
        case measure => simp [intOf]; omega
      | some t =>
        obtain ⟨⟨k0, n0, x0, a0, s0⟩, hO⟩ : ∃ O, ofK t = O := ⟨_, rfl⟩
        have HO := Lib.hid hO
        have N1 := Lib.hid (NS.out p hps t r hR k0 n0 x0 a0 s0 hO)
        rw [hq] at N1
        have HLN : Hid (((X.map ofK).length + 1) * 72 ≤ 140737488355328) := Lib.hid (by rw [List.length_map, hm]; have := HS.out; have := HSZ.out; omega)
        have HQ2 : Hid (tokY st name s = (X ++ [t]) ++ tksL (s.drop q)) := Lib.hid (by
          rw [HQ.out, hdq, hqd]; simp)
        clear hdq hsf hlt2 hrs hrl hq hqd hR hne hps hm hxl hO
        go_wp2_with fail
        refine (N1.out _ HI.out.glob).mono ?_
        rintro e w2 ⟨⟨A3, c3, rfl, h3, hF⟩, hb⟩
        have HP : Hid (∀ o : Obj, Kd.FK tkK (w2.alloc o) (fun k => w.heap.size ≤ k ∧ some k ≠ (Value.slice A1 m c1).ownBlock) (⟨k0, n0, x0, a0, s0⟩ : TkS) [.int .i64 k0, .string n0, .string x0, .slice A3 a0.length c3, .bool s0]) := Lib.hid (fun o => k28_mkF _ _ (⟨k0, n0, x0, a0, s0⟩ : TkS) h3 (Kd.F_mono (Kd.F_alloc hF o) (fun k hk => ⟨Nat.le_trans HI.out.below.size hk, fun he => by have := Kd.N_lt HI.out.row k he.symm; omega⟩)))
        replace HI := Lib.hid (HI.out.call hb)
        clear hb N1 h3 hF
        go_wp2_with (first | ((with_reducible refine gate_builtin (b := .append) (xs := #[.tmp 37, .tmp 39]) rfl ?_); at_builtin; refine Kd.N_append tkK (w0 := w) w.heap.size rfl (.tmp 37) (.tmp 39) 24 28 (.agg #[(.int .i64 0), (.string ⟨#[]⟩), (.string ⟨#[]⟩), (.slice none 0 0), (.bool false)]) 72 rfl Tryz.underlying24 infoK rfl (by decide) (by decide) (.slice A1 m c1) (X.map ofK) ⟨k0, n0, x0, a0, s0⟩ [.int .i64 k0, .string n0, .string x0, .slice A3 a0.length c3, .bool s0] (fun k => w.heap.size ≤ k) (fun k => w.heap.size ≤ k ∧ some k ≠ (Value.slice A1 m c1).ownBlock) rfl (by rw [alloc_sz]; rfl) ?aP (fun _ hk => hk) (fun _ hk => Nat.le_trans (HI.out.alloc _).below.size hk) ?aO ?aB ?aS ?aL ?_; (case aP => exact HP.out _); (case aO => exact (HI.out.alloc _).row); (case aB => exact (HI.out.alloc _).below); (case aS => exact (HI.out.alloc _).below.size); (case aL => exact HLN.out); intro v1 w3 ho hb hg hat))
        go_roundw
        case rel => exact ⟨q, X ++ [t], by go_num, hq2, Lib.hid (by rw [List.length_append]; have := HXL.out; simp; omega), Lib.hid (DrI.grown HG.out (by rw [List.map_append, List.map_singleton, HO.out]; exact ho) hb), HQ2⟩
        case measure => simp [intOf]; omega
    · have hpa : p = a.size := by omega
      have q9 : decide ((p : Int) < (a.size : Int)) = false := decide_eq_false (by omega)
      have hXe : tokY st name s = X := by rw [HQ.out, List.drop_of_length_le (by have := HSZ.out; omega), tksL_nil, List.append_nil]
      obtain ⟨A1, c1, hv3⟩ := Kd.N_slice HI.out.row
      rw [List.length_map] at hv3
      subst hv3
      have J1 : Hid (∀ W, (∃ k, W = wr.drewN k) → Calls Tryz.prog 15 #[.slice A1 X.length c1] W fun e w' => (∃ v, e = .returned v ∧ Kd.V tkK 28 w' W.heap.size (fun k => w.heap.size ≤ k ∧ k < w'.heap.size) v ((joinL (tokY st name s)).map ofK)) ∧ Below W.heap.size W w') := Lib.hid (fun W hW => by
        obtain ⟨k, rfl⟩ := hW
        have hv : Kd.V tkK 28 (wr.drewN k) (wr.drewN k).heap.size (fun j => w.heap.size ≤ j ∧ j < (wr.drewN k).heap.size) (.slice A1 (tokY st name s).length c1) ((tokY st name s).map ofK) := by
          rw [hXe]; exact Kd.V_drewN (Kd.V_mono (Kd.V_bound (Kd.N_V HI.out.row)) (fun k hk => hk)) k
        have := JN.out A1 c1 HBD.out (wr.drewN k) HI.out.below.size hv
        rw [hXe] at this ⊢
        exact this)
      clear hXe
      go_wp2_with fail
      refine (J1.out _ ⟨0, rfl⟩).mono ?_
      rintro e w2 ⟨⟨v, rfl, hV⟩, hb⟩
      go_wp2_with fail
      go_ret
      refine ⟨⟨_, rfl, ?_⟩, HI.out.below.trans (hb.mono HI.out.below.size)⟩
      rw [HD.out]
      exact hV
end Go.Proofs.YtbdcghbafopjjaaGreatDoor.Hand
end

section
namespace Go.Proofs.YtbdcghbafopjjaaGreatDoor.Hand
open Go Go.RowKit Go.Proofs.YtbdcghbafopjjaaGreatDoor.K0 Go.Proofs.YtbdcghbafopjjaaGreatDoor.Pl Go.Proofs.YtbdcghbafopjjaaGreatDoor.Pb Go.Proofs.YtbdcghbafopjjaaGreatDoor.Sa Go.Proofs.YtbdcghbafopjjaaGreatDoor.Pure Go.Proofs.YtbdcghbafopjjaaGreatDoorW.PrintWords Go.Proofs.YtbdcghbafopjjaaGreatDoorW.PrintLast Go.Proofs.YtbdcghbafopjjaaGreatDoorW.PrintMore
set_option maxRecDepth 100000 in
set_option maxHeartbeats 16000000 in
theorem join2_c (A : Option Addr) (c : Nat) (l : List Tk) (w : World) (lo : Nat) (hlo : lo ≤ w.heap.size) (hv : Kd.V tkK 28 w w.heap.size (fun k => lo ≤ k ∧ k < w.heap.size) (.slice A l.length c) (l.map ofK)) (hm : l.length ≤ 100000) (hB : ∀ t ∈ l, txB t ≤ 10000000) :
    Calls Tryz.prog 15 #[.slice A l.length c] w fun e w' => (∃ v, e = .returned v ∧ Kd.V tkK 28 w' w.heap.size (fun k => lo ≤ k ∧ k < w'.heap.size) v ((joinL l).map ofK)) ∧ Below w.heap.size w w' := by
  have JS := Lib.hid (fun i (h : i < l.length) => jn_succ h)
  have JL := Lib.hid (jn_len l)
  have JB := Lib.hid (jn_bd hB)
  have HE : Hid (jn l l.length = joinL l) := Lib.hid (by unfold jn; rw [List.take_length, join_eq])
  have HBB := Lib.hid hB
  have H0 : Hid (JnI lo w w A l.length c l (.slice none 0 0) (jn l 0)) := Lib.hid ⟨Kd.N_nil _ _ _ _ _, hv, hlo, Below.refl _ _⟩
  obtain ⟨n, hn⟩ : ∃ n, l.length = n := ⟨_, rfl⟩
  have HN := Lib.hid hn
  rw [hn] at H0 HE ⊢
  have HM : Hid (n ≤ 100000) := Lib.hid (by omega)
  clear hv hB hm hn hlo
  go_enter Tryz.func15, Tryz.ntmps15
  go_wp2_with fail
  go_loopw [3, 9] (fun v3 v9 wx => ∃ i : Nat, v9 = .int .i64 (i : Int) ∧ i ≤ n ∧ Hid (JnI lo w wx A n c l v3 (jn l i))) (fun _ v9 _ => n - (intOf v9).toNat)
  case atStart => exact ⟨0, rfl, Nat.zero_le _, H0⟩
  case round =>
    clear H0
    obtain ⟨i, rfl, hi, HI⟩ := hrel
    by_cases hlt : i < n
    · have hll : i < l.length := by rw [HN.out]; exact hlt
      have q1 : decide ((i : Int) < (n : Int)) = true := decide_eq_true (by omega)
      have i0 : (0 : Int) ≤ (i : Int) := by omega
      have i1 : (i : Int) < (n : Int) := by omega
      have w3 : IntKind.i64.wrap ((i : Int) + 1) = ((i + 1 : Nat) : Int) := wrap_add2 (x := i) (y := 1) rfl (by have := HM.out; omega)
      obtain ⟨ad, A3, c3, hA, hx0, hx1, hx2, hx3, hx4, h3, hF⟩ := HI.out.elem hll
      subst hA
      have HS := Lib.hid (JS.out i hll)
      have HEL : Hid (∃ t, t = l[i] ∧ ofK t = ofK l[i]) := Lib.hid ⟨_, rfl, rfl⟩
      obtain ⟨t, ht⟩ : ∃ t, l[i] = t := ⟨_, rfl⟩
      have HTB : Hid (txB t ≤ 10000000) := Lib.hid (by rw [← ht]; exact HBB.out _ (List.getElem_mem _))
      rw [ht] at hx0 hx1 hx2 hx3 hx4 h3 hF HS
      obtain ⟨A1, c1, hv3⟩ := Kd.N_slice HI.out.row
      have hml := jn_len l i
      rw [List.length_map] at hv3
      obtain ⟨m, hm⟩ : ∃ m, (jn l i).length = m := ⟨_, rfl⟩
      rw [hm] at hv3 hml
      subst hv3
      have HML := Lib.hid hm
      have hm6 : m ≤ 100000 := by have := HM.out; omega
      have HLN : Hid ((((jn l i).map ofK).length + 1) * 72 ≤ 140737488355328) := Lib.hid (by rw [List.length_map, hm]; omega)
      have hwl := wrap_pred hm6
      obtain ⟨⟨k0, n0, x0, a0, s0⟩, hO⟩ : ∃ O, ofK t = O := ⟨_, rfl⟩
      have HO := Lib.hid hO
      rw [hO] at hx0 hx1 hx2 hx3 hx4 h3 hF
      dsimp only at hx0 hx1 hx2 hx3 hx4 h3 hF
      have HP : Hid (∀ o : Obj, Kd.FK tkK (wr.alloc o) (fun k => lo ≤ k ∧ some k ≠ (Value.slice A1 m c1).ownBlock) (⟨k0, n0, x0, a0, s0⟩ : TkS) [.int .i64 k0, .string n0, .string x0, .slice A3 a0.length c3, .bool s0]) := Lib.hid (fun o => k28_mkF _ _ (⟨k0, n0, x0, a0, s0⟩ : TkS) h3 (Kd.F_mono (Kd.F_alloc hF o) (fun k hk => ⟨hk.1, fun he => by have := Kd.N_base HI.out.row k he.symm; have := hk.2; omega⟩)))
      obtain ⟨o, ho⟩ : ∃ o, Obj.cells #[.int .i64 k0, .string n0, .string x0, .slice A3 a0.length c3, .bool s0] 28 = o := ⟨_, rfl⟩
      have HO2 := Lib.hid ho
      have y0 : (wr.alloc (.cells #[.int .i64 k0, .string n0, .string x0, .slice A3 a0.length c3, .bool s0] 28)).cell? ⟨wr.heap.size, 0, none⟩ = some (.int .i64 k0) := (World.cell?_alloc_at _ _ _ 0 rfl).trans rfl
      have y2 : (wr.alloc (.cells #[.int .i64 k0, .string n0, .string x0, .slice A3 a0.length c3, .bool s0] 28)).cell? ⟨wr.heap.size, 2, none⟩ = some (.string x0) := (World.cell?_alloc_at _ _ _ 2 rfl).trans rfl
      clear ht hm hml HEL ho hO h3 hF
      cases hx : isTx t with
      | false =>
        have e0 : (k0 == 0) = false := by
          have : (ofK t).f0 = k0 := by rw [HO.out]
          rw [← this, beq_eq_false_iff_ne]
          cases t <;> first | exact (show (1 : Int) ≠ 0 by decide) | exact (show (2 : Int) ≠ 0 by decide) | exact (show (3 : Int) ≠ 0 by decide) | exact (show (4 : Int) ≠ 0 by decide) | cases hx
        have HR : Hid (jn l (i + 1) = jn l i ++ [t]) := Lib.hid (by rw [HS.out, stepJ_no _ hx])
        clear hx
        go_wp2_with (first | ((with_reducible refine gate_builtin (b := .append) (xs := #[.tmp 16, .tmp 18]) rfl ?_); at_builtin; refine Kd.N_append tkK (w0 := w) w.heap.size rfl (.tmp 16) (.tmp 18) 24 28 (.agg #[(.int .i64 0), (.string ⟨#[]⟩), (.string ⟨#[]⟩), (.slice none 0 0), (.bool false)]) 72 rfl Tryz.underlying24 infoK rfl (by decide) (by decide) (.slice A1 m c1) ((jn l i).map ofK) ⟨k0, n0, x0, a0, s0⟩ [.int .i64 k0, .string n0, .string x0, .slice A3 a0.length c3, .bool s0] (fun k => lo ≤ k) (fun k => lo ≤ k ∧ some k ≠ (Value.slice A1 m c1).ownBlock) rfl (by rw [alloc_sz]; rfl) ?aP (fun _ hk => hk) (fun _ hk => Nat.le_trans (HI.out.alloc _).lowW hk) ?aO ?aB ?aS ?aL ?_; (case aP => exact HP.out _); (case aO => exact (HI.out.alloc _).row); (case aB => exact (HI.out.alloc _).below); (case aS => exact (HI.out.alloc _).below.size); (case aL => exact HLN.out); intro v1 w1 ho hb hg hat))
        go_roundw
        case rel =>
          exact ⟨i + 1, by go_num, by omega, Lib.hid (by rw [HR.out]; exact (HI.out.alloc _).grown (by rw [List.map_append, List.map_singleton, HO.out]; exact ho) hb hg)⟩
        case measure => simp [intOf]; omega
      | true =>
        obtain ⟨s, rfl⟩ : ∃ s, t = .text s := by cases t <;> first | exact ⟨_, rfl⟩ | cases hx
        have hk0 : k0 = 0 := by
          have : (ofK (Tk.text s)).f0 = k0 := by rw [HO.out]
          exact this.symm
        have hx0' : x0 = B s := by
          have : (ofK (Tk.text s)).f2 = x0 := by rw [HO.out]
          exact this.symm
        have e0 : (k0 == 0) = true := by rw [hk0]; rfl
        have hxl : x0.toList = s := by rw [hx0', toList_data, B_data]
        by_cases hs : s = []
        · have xe1 : (x0.toList == ([] : List UInt8)) = true := by rw [hxl, hs]; rfl
          have xe2 : x0.toList.isEmpty = true := by rw [hxl, hs]; rfl
          have HR : Hid (jn l (i + 1) = jn l i) := Lib.hid (by rw [HS.out, hs, stepJ_nil])
          clear hx hk0 hx0' hxl hs
          go_wp2_with fail
          go_roundw
          case rel => exact ⟨i + 1, by go_num, by omega, Lib.hid (by rw [HR.out]; exact HI.out.alloc _)⟩
          case measure => simp [intOf]; omega
        · have xe1 : (x0.toList == ([] : List UInt8)) = false := by rw [hxl, beq_eq_false_iff_ne]; exact hs
          have xe2 : x0.toList.isEmpty = false := by rw [hxl]; exact List.isEmpty_eq_false_iff.2 hs
          rcases Nat.eq_zero_or_pos m with hm0 | hmp
          · have hw0 : IntKind.i64.wrap ((m : Int) - 1) = -1 := by rw [hwl, hm0]; rfl
            have HR : Hid (jn l (i + 1) = jn l i ++ [.text s]) := Lib.hid (by
              have : jn l i = [] := List.eq_nil_of_length_eq_zero (by rw [HML.out, hm0])
              rw [HS.out, stepJ_new _ hs (fun u => by rw [this]; simp)])
            clear hx hk0 hx0' hxl hs hwl hm0
            go_wp2_with (first | ((with_reducible refine gate_builtin (b := .append) (xs := #[.tmp 16, .tmp 18]) rfl ?_); at_builtin; refine Kd.N_append tkK (w0 := w) w.heap.size rfl (.tmp 16) (.tmp 18) 24 28 (.agg #[(.int .i64 0), (.string ⟨#[]⟩), (.string ⟨#[]⟩), (.slice none 0 0), (.bool false)]) 72 rfl Tryz.underlying24 infoK rfl (by decide) (by decide) (.slice A1 m c1) ((jn l i).map ofK) ⟨k0, n0, x0, a0, s0⟩ [.int .i64 k0, .string n0, .string x0, .slice A3 a0.length c3, .bool s0] (fun k => lo ≤ k) (fun k => lo ≤ k ∧ some k ≠ (Value.slice A1 m c1).ownBlock) rfl (by rw [alloc_sz]; rfl) ?aP (fun _ hk => hk) (fun _ hk => Nat.le_trans (HI.out.alloc _).lowW hk) ?aO ?aB ?aS ?aL ?_; (case aP => exact HP.out _); (case aO => exact (HI.out.alloc _).row); (case aB => exact (HI.out.alloc _).below); (case aS => exact (HI.out.alloc _).below.size); (case aL => exact HLN.out); intro v1 w1 ho hb hg hat))
            go_roundw
            case rel =>
              exact ⟨i + 1, by go_num, by omega, Lib.hid (by rw [HR.out]; exact (HI.out.alloc _).grown (by rw [List.map_append, List.map_singleton, HO.out]; exact ho) hb hg)⟩
            case measure => simp [intOf]; omega
          · obtain ⟨m1, hm1⟩ : ∃ m1, m = m1 + 1 := ⟨m - 1, by omega⟩
            have hw0 : IntKind.i64.wrap ((m : Int) - 1) = (m1 : Int) := by rw [hwl, hm1]; omega
            have hml1 : m1 < (jn l i).length := by rw [HML.out]; omega
            obtain ⟨g, cap, hv4, hg1, hg2, _⟩ := Kd.N_form HI.out.row (by rw [List.length_map]; omega)
            obtain ⟨rfl, rfl⟩ : A1 = some ⟨g, 0, none⟩ ∧ c1 = cap := by injection hv4 with h1 h2 h3; exact ⟨h1, h3⟩
            have HW := Lib.hid (HI.out.alloc (.cells #[.int .i64 k0, .string n0, .string x0, .slice A3 a0.length c3, .bool s0] 28))
            obtain ⟨cs, hcl, hcF, hcc, hcf⟩ := Kd.N_elem HW.out.row z28 (m1 : Int) (by omega) (by clear hw0; omega)
            obtain ⟨u, hu⟩ : ∃ u, (jn l i)[m1] = u := ⟨_, rfl⟩
            have hgd : ((jn l i).map ofK).getD (m1 : Int).toNat z28 = ofK u := by rw [← hu]; exact rd_map hml1
            rw [hgd] at hcF
            obtain ⟨⟨k1, n1, x1, a1, s1⟩, hU⟩ : ∃ O, ofK u = O := ⟨_, rfl⟩
            rw [hU] at hcF
            obtain ⟨A5, c5, rfl, h5, hF5⟩ := k28_openF hcF
            dsimp only at h5 hF5 hcc
            have z0 : (wr.alloc (.cells #[.int .i64 k0, .string n0, .string x0, .slice A3 a0.length c3, .bool s0] 28)).cell? ⟨g, m1 * 5, none⟩ = some (.int .i64 k1) := hcc 0 _ rfl
            have z2 : (wr.alloc (.cells #[.int .i64 k0, .string n0, .string x0, .slice A3 a0.length c3, .bool s0] 28)).cell? ⟨g, m1 * 5 + 2, none⟩ = some (.string x1) := hcc 2 _ rfl
            have zf : (wr.alloc (.cells #[.int .i64 k0, .string n0, .string x0, .slice A3 a0.length c3, .bool s0] 28)).frozen? ⟨g, m1 * 5 + 2, none⟩ = false := hcf 2
            have j0 : (0 : Int) ≤ (m1 : Int) := by omega
            have j1 : (m1 : Int) < (m : Int) := by omega
            have hlast : jn l i = (jn l i).take m1 ++ [u] := by
              rw [← hu, ← List.take_succ_eq_append_getElem hml1, List.take_of_length_le (by have := HML.out; omega)]
            cases hxu : isTx u with
            | false =>
              have e1 : (k1 == 0) = false := by
                have : (ofK u).f0 = k1 := by rw [hU]
                rw [← this, beq_eq_false_iff_ne]
                cases u <;> first | exact (show (1 : Int) ≠ 0 by decide) | exact (show (2 : Int) ≠ 0 by decide) | exact (show (3 : Int) ≠ 0 by decide) | exact (show (4 : Int) ≠ 0 by decide) | cases hxu
              have HR : Hid (jn l (i + 1) = jn l i ++ [.text s]) := Lib.hid (by
                rw [HS.out, stepJ_new _ hs (fun v hv => by
                  rw [hlast, List.getLast?_append] at hv
                  simp at hv
                  rw [hv] at hxu; cases hxu)])
              clear hx hk0 hx0' hxl hs hwl hm1 hml1 hv4 hg1 hg2 hcl hgd hcF hu h5 hF5 hcc hcf hlast hxu hU zf
              go_wp2_with (first | ((with_reducible refine gate_builtin (b := .append) (xs := #[.tmp 16, .tmp 18]) rfl ?_); at_builtin; refine Kd.N_append tkK (w0 := w) w.heap.size rfl (.tmp 16) (.tmp 18) 24 28 (.agg #[(.int .i64 0), (.string ⟨#[]⟩), (.string ⟨#[]⟩), (.slice none 0 0), (.bool false)]) 72 rfl Tryz.underlying24 infoK rfl (by decide) (by decide) (.slice (some ⟨g, 0, none⟩) m c1) ((jn l i).map ofK) ⟨k0, n0, x0, a0, s0⟩ [.int .i64 k0, .string n0, .string x0, .slice A3 a0.length c3, .bool s0] (fun k => lo ≤ k) (fun k => lo ≤ k ∧ some k ≠ (Value.slice (some ⟨g, 0, none⟩) m c1).ownBlock) rfl (by rw [alloc_sz]; rfl) ?aP (fun _ hk => hk) (fun _ hk => Nat.le_trans (HI.out.alloc _).lowW hk) ?aO ?aB ?aS ?aL ?_; (case aP => exact HP.out _); (case aO => exact (HI.out.alloc _).row); (case aB => exact (HI.out.alloc _).below); (case aS => exact (HI.out.alloc _).below.size); (case aL => exact HLN.out); intro v1 w1 ho hb hg hat))
              go_roundw
              case rel =>
                exact ⟨i + 1, by go_num, by omega, Lib.hid (by rw [HR.out]; exact (HI.out.alloc _).grown (by rw [List.map_append, List.map_singleton, HO.out]; exact ho) hb hg)⟩
              case measure => simp [intOf]; omega
            | true =>
              obtain ⟨v, rfl⟩ : ∃ v, u = .text v := by cases u <;> first | exact ⟨_, rfl⟩ | cases hxu
              have hk1 : k1 = 0 := by
                have : (ofK (Tk.text v)).f0 = k1 := by rw [hU]
                exact this.symm
              have hx1' : x1 = B v := by
                have : (ofK (Tk.text v)).f2 = x1 := by rw [hU]
                exact this.symm
              have e1 : (k1 == 0) = true := by rw [hk1]; rfl
              have hvb : v.length ≤ 10000000000000 := by
                have h1 := JB.out i (by omega) (.text v) (by rw [← hu]; exact List.getElem_mem _)
                have h2 : txB (.text v) = v.length := rfl
                have := HM.out
                have h3 : i * 10000000 ≤ 100000 * 10000000 := Nat.mul_le_mul_right _ (by omega)
                omega
              have hsb : s.length ≤ 10000000 := HTB.out
              have g1 : x1.size + x0.size ≤ 9223372036854775807 := by rw [hx1', hx0', size_B, size_B]; omega
              have g2 : (9223372036854775807 < x1.size + x0.size) = False := eq_false (by omega)
              have HR : Hid ((jn l (i + 1)).map ofK = ((jn l i).map ofK).set m1 (ofK (.text (v ++ s)))) := Lib.hid (by
                rw [HS.out]
                have e : (jn l i).length = m1 + 1 := by rw [HML.out, hm1]
                have e2 : ((jn l i).take m1).length = m1 := by rw [List.length_take]; omega
                rw [hlast, stepJ_tt _ hs, List.map_append, List.map_append, List.set_append_right _ _ (by rw [List.length_map, e2]; exact Nat.le_refl _)]
                congr 1
                rw [List.length_map, e2, Nat.sub_self]; rfl)
              have HXT : Hid (ofK (.text (v ++ s)) = ⟨k1, n1, x1 ++ x0, a1, s1⟩) := Lib.hid (by
                have e : ofK (.text (v ++ s)) = ⟨(ofK (.text v)).f0, (ofK (.text v)).f1, (ofK (.text v)).f2 ++ B s, (ofK (.text v)).f3, (ofK (.text v)).f4⟩ := by
                  show (⟨0, B [], B (v ++ s), [], false⟩ : TkS) = ⟨0, B [], B v ++ B s, [], false⟩
                  rw [B_append]
                rw [e, hU, hx0'])
              obtain ⟨cs', hcl', hcF', hcc', _⟩ := Kd.N_elem HI.out.row z28 (m1 : Int) (by omega) (by clear hw0; omega)
              rw [hgd, hU] at hcF'
              obtain ⟨A6, c6, rfl, h6, hF6⟩ := k28_openF hcF'
              dsimp only at h6 hF6 hcc'
              have HSG := Lib.hid (Kd.N_seg HI.out.row (m1 : Int) (by omega) (by clear hw0; omega) (seg := [.string (x1 ++ x0)]) (j := 2) hcl' hcc' (show 2 + 1 ≤ 5 by decide) (x' := ⟨k1, n1, x1 ++ x0, a1, s1⟩) (okp := fun k => lo ≤ k ∧ k ≠ g) (k28_mkF _ _ (⟨k1, n1, x1 ++ x0, a1, s1⟩ : TkS) h6 hF6) (fun k hk => hk))
              have HG1 := Lib.hid hg1
              clear hcl' hcF' hcc' h6 hF6 hx hk0 hx0' hxl hs hwl hm1 hml1 hv4 hcl hgd hcF hu h5 hF5 hcc hcf hlast hxu hU hk1 hx1' hvb hsb
              go_wp2_with fail
              go_region
              all_goals (
                go_wp2_with fail
                go_roundw
                case rel =>
                  refine ⟨i + 1, by go_num, by omega, Lib.hid ?_⟩
                  obtain ⟨g3, g4⟩ := HSG.out
                  have hJ : JnI lo w (wr.setCell ⟨g, m1 * 5 + 2, none⟩ (.string (x1 ++ x0))) (some ad) n c l (.slice (some ⟨g, 0, none⟩) m c1) (jn l (i + 1)) :=
                    ⟨by rw [HR.out, HXT.out]; exact g3, Kd.V_grown HI.out.arg g4 (fun k hk he => by have := HG1.out; have := hk.2; injection he with he; omega), HI.out.low, HI.out.below.setCell HG1.out _⟩
                  exact (hJ.alloc _).drew
                case measure => simp [intOf]; omega)
    · have hin : i = n := by omega
      subst hin
      have q9 : decide ((i : Int) < (i : Int)) = false := decide_eq_false (by omega)
      go_wp2_with fail
      go_ret
      refine ⟨⟨_, rfl, ?_⟩, HI.out.below⟩
      rw [← HE.out]
      exact Kd.V_mono (Kd.V_bound (Kd.N_V HI.out.row)) (fun k hk => hk)
end Go.Proofs.YtbdcghbafopjjaaGreatDoor.Hand
end

section
namespace Go.Proofs.YtbdcghbafopjjaaGreatDoor.Sl
open Go.RowKit Go.Proofs.YtbdcghbafopjjaaGreatDoor.K0 Go.Proofs.YtbdcghbafopjjaaGreatDoor.Hand Go.Proofs.YtbdcghbafopjjaaGreatDoor.Sa Go.Proofs.YtbdcghbafopjjaaGreatDoorW.PrintWords Go.Proofs.YtbdcghbafopjjaaGreatDoorW.PrintLast Go.Proofs.YtbdcghbafopjjaaGreatDoorW.PrintMore
attribute [local go_sem] max2_int min2_int max_two min_two max_three min_three max_four min_four  
set_option linter.unusedVariables false
set_option linter.unusedSimpArgs false
def errW : Option Int → Value
  | none => .nilIface
  | some c => .iface 0 (.int .i64 c)
theorem errW_none : errW none = .nilIface := rfl
theorem errW_some (c : Int) : errW (some c) = .iface 0 (.int .i64 c) := rfl
end Go.Proofs.YtbdcghbafopjjaaGreatDoor.Sl
end

section
namespace Go.Proofs.YtbdcghbafopjjaaGreatDoor.Sl
open Go.RowKit Go.Proofs.YtbdcghbafopjjaaGreatDoor.K0 Go.Proofs.YtbdcghbafopjjaaGreatDoor.Hand Go.Proofs.YtbdcghbafopjjaaGreatDoor.Sa Go.Proofs.YtbdcghbafopjjaaGreatDoorW.PrintWords Go.Proofs.YtbdcghbafopjjaaGreatDoorW.PrintLast Go.Proofs.YtbdcghbafopjjaaGreatDoorW.PrintMore
attribute [local go_sem] max2_int min2_int max_two min_two max_three min_three max_four min_four  
set_option linter.unusedVariables false
set_option linter.unusedSimpArgs false
theorem eqA65 (d : Nat) (w : World) (x0 y0 : ByteArray) (x1 y1 : ByteArray) :
    (Op.equalIn (d + 2) 65 (.agg #[.string x0, .string x1]) (.agg #[.string y0, .string y1])).run Tryz.prog w = .ok (x0.toList == y0.toList && (x1.toList == y1.toList)) w := by
  refine eqA_of Tryz.underlying65 (by kernel_rfl) ?_
  refine eqf_cons (by rfl) (by go_simp; rfl) (by go_simp; rfl) (by go_simp) ?_
  exact eqf_last (by rfl) (by go_simp; rfl) (by go_simp; rfl) (by go_simp)
end Go.Proofs.YtbdcghbafopjjaaGreatDoor.Sl
end

section
namespace Go.Proofs.YtbdcghbafopjjaaGreatDoor.Sl
open Go.RowKit Go.Proofs.YtbdcghbafopjjaaGreatDoor.K0 Go.Proofs.YtbdcghbafopjjaaGreatDoor.Hand Go.Proofs.YtbdcghbafopjjaaGreatDoor.Sa Go.Proofs.YtbdcghbafopjjaaGreatDoorW.PrintWords Go.Proofs.YtbdcghbafopjjaaGreatDoorW.PrintLast Go.Proofs.YtbdcghbafopjjaaGreatDoorW.PrintMore
attribute [local go_sem] max2_int min2_int max_two min_two max_three min_three max_four min_four  
set_option linter.unusedVariables false
set_option linter.unusedSimpArgs false
attribute [local go_sem high] eqA65
def flailref08_Same.l0 : Nat → List (S65) → List (S65) → Int → Option (Bool)
  | 0, _, _, _ => none
  | k + 1, x0, x1, x5 => if x5 < (x0.length : Int) then (if 0 ≤ x5 then (if x5 < (x1.length : Int) then (if (!((((rd_T65 x0 x5).f0).toList) == (((rd_T65 x1 x5).f0).toList)) || (!((((rd_T65 x0 x5).f1).toList) == (((rd_T65 x1 x5).f1).toList)))) = true then (some false) else (flailref08_Same.l0 k x0 x1 (wrap64 (x5 + 1)))) else (none)) else (none)) else (some true)
def flailref08_Same.f (k : Nat) (l0 : List (S65)) (l1 : List (S65)) : Option (Bool) := if (l0.length : Int) = (l1.length : Int) then (flailref08_Same.l0 k l0 l1 0) else (some false)
set_option maxHeartbeats 8000000 in
set_option maxRecDepth 100000 in
theorem flailref08_Same.calls (k : Nat) (A0 : Option Addr) (c0 : Nat) (l0 : List (S65)) (A1 : Option Addr) (c1 : Nat) (l1 : List (S65)) (r : Bool) (w : World) (hr0 : Kd.C k65 w A0 l0.length l0) (hc0 : l0.length ≤ c0) (hr1 : Kd.C k65 w A1 l1.length l1) (hc1 : l1.length ≤ c1) (h : flailref08_Same.f k l0 l1 = some r) :
    Calls Tryz.prog 69 #[.slice A0 l0.length c0, .slice A1 l1.length c1] w fun e w' => e = .returned (.bool r) ∧ Drawn0 w w' := by
  have hu65 := Tryz.underlying65
  have HR0 := Aside0.mk hr0
  have HC0 := Aside0.mk hc0
  clear hr0 hc0
  have HR1 := Aside0.mk hr1
  have HC1 := Aside0.mk hc1
  clear hr1 hc1
  have H : (if (l0.length : Int) = (l1.length : Int) then (flailref08_Same.l0 k l0 l1 0) else (some false)) = some r := h
  clear h
  by_cases c3 : (l0.length : Int) = (l1.length : Int)
  · rw [if_pos c3] at H
    have c3b0 : ((l0.length : Int) == (l1.length : Int)) = true := beq_iff_eq.mpr c3
    have c3b1 : ((l0.length : Int) != (l1.length : Int)) = false := bne_eq_false_iff_eq.mpr c3
    have c3b2 : (l0.length == l1.length) = true := by first | simpa using c3 | (simp at c3 ⊢; omega)
    clear c3
    have H' := Aside0.mk H
    clear H
    go_enter Tryz.func69, Tryz.ntmps69
    go_wp2
    repeat (go_quiet (fail); try go_wp2)
    go_loopg [5] k (fun kq v5 w' => ∃ (x5_1 : Int), v5 = .int .i64 x5_1 ∧ Aside0 (flailref08_Same.l0 kq l0 l1 x5_1 = some r) ∧ Aside0 (kq ≤ k) ∧ Drawn0 w w')
    case atStart => exact ⟨(0), (by first | rfl | (simp; done) | (simp [*]; done)), H', ⟨Nat.le_refl _⟩, by repeat (first | exact Drawn0.refl _ | apply Drawn0.step)⟩
    case round =>
      clear H'
      try clear c1
      try clear p2
      try clear c3
      try clear c3b0
      try clear c3b1
      try clear c3b2
      obtain ⟨x5_1, rfl, HA, HK1, ⟨m1, rfl⟩⟩ := hrel
      cases gk with
      | zero => exact absurd HA.out (by simp [flailref08_Same.l0])
      | succ k1 =>
        have H := HA.out
        clear HA
        simp only [flailref08_Same.l0] at H
        by_cases c4 : x5_1 < (l0.length : Int)
        · rw [if_pos c4] at H
          have c4b0 : decide (x5_1 < (l0.length : Int)) = true := decide_eq_true c4
          clear c4
          by_cases c5 : 0 ≤ x5_1
          · rw [if_pos c5] at H
            have c5b0 : decide (0 ≤ x5_1) = true := decide_eq_true c5
            clear c5
            by_cases c6 : x5_1 < (l1.length : Int)
            · rw [if_pos c6] at H
              have c6b0 : decide (x5_1 < (l1.length : Int)) = true := decide_eq_true c6
              clear c6
              by_cases c7 : (!((((rd_T65 l0 x5_1).f0).toList) == (((rd_T65 l1 x5_1).f0).toList)) || (!((((rd_T65 l0 x5_1).f1).toList) == (((rd_T65 l1 x5_1).f1).toList)))) = true
              · rw [if_pos c7] at H
                have c7b0 : (!((((rd_T65 l0 x5_1).f0).toList) == (((rd_T65 l1 x5_1).f0).toList)) || (!((((rd_T65 l0 x5_1).f1).toList) == (((rd_T65 l1 x5_1).f1).toList)))) = true := c7
                clear c7
                obtain rfl := Option.some.inj H
                have p101 : 0 ≤ (x5_1 : Int) := of_decide_eq_true (by first | (with_reducible assumption) | assumption)
                have q101 : x5_1 < (l0.length : Int) := of_decide_eq_true (by first | (with_reducible assumption) | assumption)
                obtain ⟨ad101, e101, hx101_0, hx101_1⟩ := at_T65 HR0.out x5_1 p101 q101
                cases e101
                replace p101 := eq_true p101
                replace q101 := eq_true q101
                have p102 : 0 ≤ (x5_1 : Int) := of_decide_eq_true (by first | (with_reducible assumption) | assumption)
                have q102 : x5_1 < (l1.length : Int) := of_decide_eq_true (by first | (with_reducible assumption) | assumption)
                obtain ⟨ad102, e102, hx102_0, hx102_1⟩ := at_T65 HR1.out x5_1 p102 q102
                cases e102
                replace p102 := eq_true p102
                replace q102 := eq_true q102
                go_wp2
                repeat (go_quiet (fail); try go_wp2)
                go_ret
                exact ⟨by first | rfl | (simp; done) | (simp [*]; done), by repeat (first | exact Drawn0.refl _ | apply Drawn0.step)⟩
              · rw [if_neg c7] at H
                have c7b0 : (!((((rd_T65 l0 x5_1).f0).toList) == (((rd_T65 l1 x5_1).f0).toList)) || (!((((rd_T65 l0 x5_1).f1).toList) == (((rd_T65 l1 x5_1).f1).toList)))) = false := by simpa using c7
                clear c7
                have H' := Aside0.mk H
                clear H
                have p101 : 0 ≤ (x5_1 : Int) := of_decide_eq_true (by first | (with_reducible assumption) | assumption)
                have q101 : x5_1 < (l0.length : Int) := of_decide_eq_true (by first | (with_reducible assumption) | assumption)
                obtain ⟨ad101, e101, hx101_0, hx101_1⟩ := at_T65 HR0.out x5_1 p101 q101
                cases e101
                replace p101 := eq_true p101
                replace q101 := eq_true q101
                have p102 : 0 ≤ (x5_1 : Int) := of_decide_eq_true (by first | (with_reducible assumption) | assumption)
                have q102 : x5_1 < (l1.length : Int) := of_decide_eq_true (by first | (with_reducible assumption) | assumption)
                obtain ⟨ad102, e102, hx102_0, hx102_1⟩ := at_T65 HR1.out x5_1 p102 q102
                cases e102
                replace p102 := eq_true p102
                replace q102 := eq_true q102
                go_wp2
                repeat (go_quiet (fail); try go_wp2)
                go_roundg k1
                case measure => have := HK1.out; omega
                case rel => exact ⟨(wrap64 (x5_1 + 1)), (by first | rfl | (simp; done) | (simp [*]; done)), H', ⟨by have := HK1.out; omega⟩, by repeat (first | exact Drawn0.refl _ | apply Drawn0.step)⟩
            · rw [if_neg c6] at H
              exact absurd H (by simp)
          · rw [if_neg c5] at H
            exact absurd H (by simp)
        · rw [if_neg c4] at H
          have c4b0 : decide (x5_1 < (l0.length : Int)) = false := decide_eq_false c4
          clear c4
          obtain rfl := Option.some.inj H
          go_wp2
          repeat (go_quiet (fail); try go_wp2)
          go_ret
          exact ⟨by first | rfl | (simp; done) | (simp [*]; done), by repeat (first | exact Drawn0.refl _ | apply Drawn0.step)⟩
  · rw [if_neg c3] at H
    have c3b0 : ((l0.length : Int) == (l1.length : Int)) = false := beq_eq_false_iff_ne.mpr c3
    have c3b1 : ((l0.length : Int) != (l1.length : Int)) = true := bne_iff_ne.mpr c3
    have c3b2 : (l0.length == l1.length) = false := by first | simpa using c3 | (simp at c3 ⊢; omega)
    obtain rfl := Option.some.inj H
    go_enter Tryz.func69, Tryz.ntmps69
    go_wp2
    repeat (go_quiet (fail); try go_wp2)
    go_ret
    exact ⟨by first | rfl | (simp; done) | (simp [*]; done), by repeat (first | exact Drawn0.refl _ | apply Drawn0.step)⟩
def flailref09_Same.f (k : Nat) (a0_0 : Int) (a0_1 : ByteArray) (a0_2 : ByteArray) (l0_3 : List (S65)) (a0_4 : Bool) (a1_0 : Int) (a1_1 : ByteArray) (a1_2 : ByteArray) (l1_3 : List (S65)) (a1_4 : Bool) : Option (Bool) := if a0_0 = a1_0 then (if a0_1.toList = a1_1.toList then (if a0_2.toList = a1_2.toList then (if (a0_4 == a1_4) = true then ((flailref08_Same.f k l0_3 l1_3).bind fun t105 => (some t105)) else (some false)) else (some false)) else (some false)) else (some false)
set_option maxHeartbeats 8000000 in
set_option maxRecDepth 100000 in
theorem flailref09_Same.calls (k : Nat) (a0_0 : Int) (a0_1 : ByteArray) (a0_2 : ByteArray) (A0_3 : Option Addr) (c0_3 : Nat) (l0_3 : List (S65)) (a0_4 : Bool) (a1_0 : Int) (a1_1 : ByteArray) (a1_2 : ByteArray) (A1_3 : Option Addr) (c1_3 : Nat) (l1_3 : List (S65)) (a1_4 : Bool) (r : Bool) (w : World) (hr0_3 : Kd.C k65 w A0_3 l0_3.length l0_3) (hc0_3 : l0_3.length ≤ c0_3) (hr1_3 : Kd.C k65 w A1_3 l1_3.length l1_3) (hc1_3 : l1_3.length ≤ c1_3) (h : flailref09_Same.f k a0_0 a0_1 a0_2 l0_3 a0_4 a1_0 a1_1 a1_2 l1_3 a1_4 = some r) :
    Calls Tryz.prog 36 #[.agg #[.int .i64 a0_0, .string a0_1, .string a0_2, .slice A0_3 l0_3.length c0_3, .bool a0_4], .agg #[.int .i64 a1_0, .string a1_1, .string a1_2, .slice A1_3 l1_3.length c1_3, .bool a1_4]] w fun e w' => e = .returned (.bool r) ∧ Below w.heap.size w w' := by
  have hu28 := Tryz.underlying28
  have HR0_3 := Aside0.mk hr0_3
  have HC0_3 := Aside0.mk hc0_3
  clear hr0_3 hc0_3
  have HR1_3 := Aside0.mk hr1_3
  have HC1_3 := Aside0.mk hc1_3
  clear hr1_3 hc1_3
  have HB := Aside0.mk (Below.refl w.heap.size w)
  have H : (if a0_0 = a1_0 then (if a0_1.toList = a1_1.toList then (if a0_2.toList = a1_2.toList then (if (a0_4 == a1_4) = true then ((flailref08_Same.f k l0_3 l1_3).bind fun t105 => (some t105)) else (some false)) else (some false)) else (some false)) else (some false)) = some r := h
  clear h
  by_cases c3 : a0_0 = a1_0
  · rw [if_pos c3] at H
    have c3b0 : (a0_0 == a1_0) = true := beq_iff_eq.mpr c3
    have c3b1 : (a0_0 != a1_0) = false := bne_eq_false_iff_eq.mpr c3
    clear c3
    by_cases c4 : a0_1.toList = a1_1.toList
    · rw [if_pos c4] at H
      have c4b0 : (a0_1.toList == a1_1.toList) = true := beq_iff_eq.mpr c4
      have c4b1 : (a0_1.toList != a1_1.toList) = false := bne_eq_false_iff_eq.mpr c4
      clear c4
      by_cases c5 : a0_2.toList = a1_2.toList
      · rw [if_pos c5] at H
        have c5b0 : (a0_2.toList == a1_2.toList) = true := beq_iff_eq.mpr c5
        have c5b1 : (a0_2.toList != a1_2.toList) = false := bne_eq_false_iff_eq.mpr c5
        clear c5
        by_cases c6 : (a0_4 == a1_4) = true
        · rw [if_pos c6] at H
          have c6b0 : (a0_4 == a1_4) = true := c6
          (try (have c6b1 : decide (a0_4 = a1_4) = true := by simpa using c6))
          (try (have c6b2 : (a0_4 == a1_4) = true := by simpa using c6))
          clear c6
          replace H := Option.bind_eq_some_iff.mp H
          obtain ⟨t105, A70, H⟩ := H
          replace H : (some t105) = some r := H
          have A7 := Aside0.mk A70
          clear A70
          obtain rfl := Option.some.inj H
          go_enter Tryz.func36, Tryz.ntmps36
          go_wp2_with (first | ((with_reducible refine gate_dst (N := 2) rfl ?_); refine box_event ?hg (N := 2) ?hd (cs := #[.int .i64 a0_0, .string a0_1, .string a0_2, .slice A0_3 l0_3.length c0_3, .bool a0_4]) (t := 28) ?hr ?_; (case hd => rfl); (case hg => rfl); (case hr => first | (go_simp; done) | (go_simp; rfl)); intro gb103 hg w8 hbox hb; have n0_ := Aside0.mk (below_step (by repeat (first | (with_reducible first | exact HB.out | apply below_alloc | apply pw_below_drewN | apply below_drew1) | exact HB.out)) hb); have n1_ := Aside0.mk (hbox); have n2_ := Aside0.mk ((by rw [hg]; exact (below_size (by repeat (first | (with_reducible first | exact HB.out | apply below_alloc | apply pw_below_drewN | apply below_drew1) | exact HB.out))) : w.heap.size ≤ gb103)); have n3_ := Aside0.mk ((by rw [hg]; exact (below_size (by repeat (first | (with_reducible first | exact HB.out | apply below_alloc | apply pw_below_drewN | apply below_drew1) | exact HB.out))) : w.heap.size ≤ gb103)); clear HB; have HB := n0_; have BK103 := n1_; have GW103 := n2_; have GE103 := n3_; clear n0_ n1_ n2_ n3_; clear hb hbox hg) | ((with_reducible refine gate_dst (N := 3) rfl ?_); refine box_event ?hg (N := 3) ?hd (cs := #[.int .i64 a1_0, .string a1_1, .string a1_2, .slice A1_3 l1_3.length c1_3, .bool a1_4]) (t := 28) ?hr ?_; (case hd => rfl); (case hg => rfl); (case hr => first | (go_simp; done) | (go_simp; rfl)); intro gb104 hg w9 hbox hb; have n0_ := Aside0.mk (blk_below (g := gb103) (o := .cells #[.int .i64 a0_0, .string a0_1, .string a0_2, .slice A0_3 l0_3.length c0_3, .bool a0_4] 28 (0, 0)) (by (with_reducible repeat (first | refine blk_drewN ?_ _ | refine blk_drew ?_ | refine blk_alloc ?_ _)); exact BK103.out) hb); have n1_ := Aside0.mk (below_step (by repeat (first | (with_reducible first | exact HB.out | apply below_alloc | apply pw_below_drewN | apply below_drew1 | refine below_set ?_ GE103.out) | exact HB.out)) hb); have n2_ := Aside0.mk (hbox); have n3_ := Aside0.mk ((by rw [hg]; exact (below_size (by repeat (first | (with_reducible first | exact HB.out | apply below_alloc | apply pw_below_drewN | apply below_drew1 | refine below_set ?_ GE103.out) | exact HB.out))) : w.heap.size ≤ gb104)); have n4_ := Aside0.mk ((by rw [hg]; exact (below_size (by repeat (first | (with_reducible first | exact HB.out | apply below_alloc | apply pw_below_drewN | apply below_drew1 | refine below_set ?_ GE103.out) | exact HB.out))) : w.heap.size ≤ gb104)); have n5_ := Aside0.mk ((by rw [hg]; exact Nat.ne_of_lt (blk_lt (g := gb103) (o := .cells #[.int .i64 a0_0, .string a0_1, .string a0_2, .slice A0_3 l0_3.length c0_3, .bool a0_4] 28 (0, 0)) (by (with_reducible repeat (first | refine blk_drewN ?_ _ | refine blk_drew ?_ | refine blk_alloc ?_ _)); exact BK103.out)) : gb103 ≠ gb104)); have n6_ := Aside0.mk ((by rw [hg]; exact Nat.ne_of_gt (blk_lt (g := gb103) (o := .cells #[.int .i64 a0_0, .string a0_1, .string a0_2, .slice A0_3 l0_3.length c0_3, .bool a0_4] 28 (0, 0)) (by (with_reducible repeat (first | refine blk_drewN ?_ _ | refine blk_drew ?_ | refine blk_alloc ?_ _)); exact BK103.out)) : gb104 ≠ gb103)); clear BK103; clear HB; have BK103 := n0_; have HB := n1_; have BK104 := n2_; have GW104 := n3_; have GE104 := n4_; have NB103_104 := n5_; have NB104_103 := n6_; clear n0_ n1_ n2_ n3_ n4_ n5_ n6_; clear hb hbox hg; have hnb10 := NB103_104.out; have hnc10 := NB104_103.out; have hcz11_0 : w9.cell? ⟨gb103, 0, none⟩ = some (.int .i64 a0_0) := (blk_cell BK103.out 0).trans rfl; have hcz11_1 : w9.cell? ⟨gb103, 1, none⟩ = some (.string a0_1) := (blk_cell BK103.out 1).trans rfl; have hcz11_2 : w9.cell? ⟨gb103, 2, none⟩ = some (.string a0_2) := (blk_cell BK103.out 2).trans rfl; have hcz11_3 : w9.cell? ⟨gb103, 3, none⟩ = some (.slice A0_3 l0_3.length c0_3) := (blk_cell BK103.out 3).trans rfl; have hcz11_4 : w9.cell? ⟨gb103, 4, none⟩ = some (.bool a0_4) := (blk_cell BK103.out 4).trans rfl; have hfz11_0 := blk_frozen BK103.out 0; have hfz11_1 := blk_frozen BK103.out 1; have hfz11_2 := blk_frozen BK103.out 2; have hfz11_3 := blk_frozen BK103.out 3; have hfz11_4 := blk_frozen BK103.out 4; have hcz12_0 : w9.cell? ⟨gb104, 0, none⟩ = some (.int .i64 a1_0) := (blk_cell BK104.out 0).trans rfl; have hcz12_1 : w9.cell? ⟨gb104, 1, none⟩ = some (.string a1_1) := (blk_cell BK104.out 1).trans rfl; have hcz12_2 : w9.cell? ⟨gb104, 2, none⟩ = some (.string a1_2) := (blk_cell BK104.out 2).trans rfl; have hcz12_3 : w9.cell? ⟨gb104, 3, none⟩ = some (.slice A1_3 l1_3.length c1_3) := (blk_cell BK104.out 3).trans rfl; have hcz12_4 : w9.cell? ⟨gb104, 4, none⟩ = some (.bool a1_4) := (blk_cell BK104.out 4).trans rfl; have hfz12_0 := blk_frozen BK104.out 0; have hfz12_1 := blk_frozen BK104.out 1; have hfz12_2 := blk_frozen BK104.out 2; have hfz12_3 := blk_frozen BK104.out 3; have hfz12_4 := blk_frozen BK104.out 4) | (go_at_call 69; (with_reducible refine (flailref08_Same.calls k _ _ l0_3 _ _ l1_3 t105 _ ?side1 ?side2 ?side3 ?side4 A7.out).mono ?_); (case side1 => repeat (first | exact (Kd.C_below HR0_3.out HB.out) | (with_reducible refine Kd.C_alloc ?_ _) | (with_reducible refine Kd.C_drewN ?_ _) | (with_reducible refine Kd.C_drew ?_))); (case side2 => exact HC0_3.out); (case side3 => repeat (first | exact (Kd.C_below HR1_3.out HB.out) | (with_reducible refine Kd.C_alloc ?_ _) | (with_reducible refine Kd.C_drewN ?_ _) | (with_reducible refine Kd.C_drew ?_))); (case side4 => exact HC1_3.out); rintro e w' ⟨rfl, ⟨nd, rfl⟩⟩))
          go_ret
          exact ⟨by first | rfl | (simp [errW_none, errW_some] <;> rfl) | (simp [*, errW_none, errW_some] <;> rfl), by repeat (first | (with_reducible first | exact HB.out | apply below_alloc | apply pw_below_drewN | apply below_drew1 | refine below_set ?_ GE103.out | refine below_set ?_ GE104.out) | exact HB.out)⟩
        · rw [if_neg c6] at H
          have c6b0 : (a0_4 == a1_4) = false := by simpa using c6
          (try (have c6b1 : decide (a0_4 = a1_4) = false := by simpa using c6))
          (try (have c6b2 : (a0_4 == a1_4) = false := by simpa using c6))
          (try (have c6b3 : ¬ (a0_4 = a1_4) := by simpa using c6))
          clear c6
          obtain rfl := Option.some.inj H
          go_enter Tryz.func36, Tryz.ntmps36
          go_wp2_with (first | ((with_reducible refine gate_dst (N := 2) rfl ?_); refine box_event ?hg (N := 2) ?hd (cs := #[.int .i64 a0_0, .string a0_1, .string a0_2, .slice A0_3 l0_3.length c0_3, .bool a0_4]) (t := 28) ?hr ?_; (case hd => rfl); (case hg => rfl); (case hr => first | (go_simp; done) | (go_simp; rfl)); intro gb103 hg w13 hbox hb; have n0_ := Aside0.mk (below_step (by repeat (first | (with_reducible first | exact HB.out | apply below_alloc | apply pw_below_drewN | apply below_drew1) | exact HB.out)) hb); have n1_ := Aside0.mk (hbox); have n2_ := Aside0.mk ((by rw [hg]; exact (below_size (by repeat (first | (with_reducible first | exact HB.out | apply below_alloc | apply pw_below_drewN | apply below_drew1) | exact HB.out))) : w.heap.size ≤ gb103)); have n3_ := Aside0.mk ((by rw [hg]; exact (below_size (by repeat (first | (with_reducible first | exact HB.out | apply below_alloc | apply pw_below_drewN | apply below_drew1) | exact HB.out))) : w.heap.size ≤ gb103)); clear HB; have HB := n0_; have BK103 := n1_; have GW103 := n2_; have GE103 := n3_; clear n0_ n1_ n2_ n3_; clear hb hbox hg) | ((with_reducible refine gate_dst (N := 3) rfl ?_); refine box_event ?hg (N := 3) ?hd (cs := #[.int .i64 a1_0, .string a1_1, .string a1_2, .slice A1_3 l1_3.length c1_3, .bool a1_4]) (t := 28) ?hr ?_; (case hd => rfl); (case hg => rfl); (case hr => first | (go_simp; done) | (go_simp; rfl)); intro gb104 hg w14 hbox hb; have n0_ := Aside0.mk (blk_below (g := gb103) (o := .cells #[.int .i64 a0_0, .string a0_1, .string a0_2, .slice A0_3 l0_3.length c0_3, .bool a0_4] 28 (0, 0)) (by (with_reducible repeat (first | refine blk_drewN ?_ _ | refine blk_drew ?_ | refine blk_alloc ?_ _)); exact BK103.out) hb); have n1_ := Aside0.mk (below_step (by repeat (first | (with_reducible first | exact HB.out | apply below_alloc | apply pw_below_drewN | apply below_drew1 | refine below_set ?_ GE103.out) | exact HB.out)) hb); have n2_ := Aside0.mk (hbox); have n3_ := Aside0.mk ((by rw [hg]; exact (below_size (by repeat (first | (with_reducible first | exact HB.out | apply below_alloc | apply pw_below_drewN | apply below_drew1 | refine below_set ?_ GE103.out) | exact HB.out))) : w.heap.size ≤ gb104)); have n4_ := Aside0.mk ((by rw [hg]; exact (below_size (by repeat (first | (with_reducible first | exact HB.out | apply below_alloc | apply pw_below_drewN | apply below_drew1 | refine below_set ?_ GE103.out) | exact HB.out))) : w.heap.size ≤ gb104)); have n5_ := Aside0.mk ((by rw [hg]; exact Nat.ne_of_lt (blk_lt (g := gb103) (o := .cells #[.int .i64 a0_0, .string a0_1, .string a0_2, .slice A0_3 l0_3.length c0_3, .bool a0_4] 28 (0, 0)) (by (with_reducible repeat (first | refine blk_drewN ?_ _ | refine blk_drew ?_ | refine blk_alloc ?_ _)); exact BK103.out)) : gb103 ≠ gb104)); have n6_ := Aside0.mk ((by rw [hg]; exact Nat.ne_of_gt (blk_lt (g := gb103) (o := .cells #[.int .i64 a0_0, .string a0_1, .string a0_2, .slice A0_3 l0_3.length c0_3, .bool a0_4] 28 (0, 0)) (by (with_reducible repeat (first | refine blk_drewN ?_ _ | refine blk_drew ?_ | refine blk_alloc ?_ _)); exact BK103.out)) : gb104 ≠ gb103)); clear BK103; clear HB; have BK103 := n0_; have HB := n1_; have BK104 := n2_; have GW104 := n3_; have GE104 := n4_; have NB103_104 := n5_; have NB104_103 := n6_; clear n0_ n1_ n2_ n3_ n4_ n5_ n6_; clear hb hbox hg; have hnb15 := NB103_104.out; have hnc15 := NB104_103.out; have hcz16_0 : w14.cell? ⟨gb103, 0, none⟩ = some (.int .i64 a0_0) := (blk_cell BK103.out 0).trans rfl; have hcz16_1 : w14.cell? ⟨gb103, 1, none⟩ = some (.string a0_1) := (blk_cell BK103.out 1).trans rfl; have hcz16_2 : w14.cell? ⟨gb103, 2, none⟩ = some (.string a0_2) := (blk_cell BK103.out 2).trans rfl; have hcz16_3 : w14.cell? ⟨gb103, 3, none⟩ = some (.slice A0_3 l0_3.length c0_3) := (blk_cell BK103.out 3).trans rfl; have hcz16_4 : w14.cell? ⟨gb103, 4, none⟩ = some (.bool a0_4) := (blk_cell BK103.out 4).trans rfl; have hfz16_0 := blk_frozen BK103.out 0; have hfz16_1 := blk_frozen BK103.out 1; have hfz16_2 := blk_frozen BK103.out 2; have hfz16_3 := blk_frozen BK103.out 3; have hfz16_4 := blk_frozen BK103.out 4; have hcz17_0 : w14.cell? ⟨gb104, 0, none⟩ = some (.int .i64 a1_0) := (blk_cell BK104.out 0).trans rfl; have hcz17_1 : w14.cell? ⟨gb104, 1, none⟩ = some (.string a1_1) := (blk_cell BK104.out 1).trans rfl; have hcz17_2 : w14.cell? ⟨gb104, 2, none⟩ = some (.string a1_2) := (blk_cell BK104.out 2).trans rfl; have hcz17_3 : w14.cell? ⟨gb104, 3, none⟩ = some (.slice A1_3 l1_3.length c1_3) := (blk_cell BK104.out 3).trans rfl; have hcz17_4 : w14.cell? ⟨gb104, 4, none⟩ = some (.bool a1_4) := (blk_cell BK104.out 4).trans rfl; have hfz17_0 := blk_frozen BK104.out 0; have hfz17_1 := blk_frozen BK104.out 1; have hfz17_2 := blk_frozen BK104.out 2; have hfz17_3 := blk_frozen BK104.out 3; have hfz17_4 := blk_frozen BK104.out 4))
          go_ret
          exact ⟨by first | rfl | (simp [errW_none, errW_some] <;> rfl) | (simp [*, errW_none, errW_some] <;> rfl), by repeat (first | (with_reducible first | exact HB.out | apply below_alloc | apply pw_below_drewN | apply below_drew1 | refine below_set ?_ GE103.out | refine below_set ?_ GE104.out) | exact HB.out)⟩
      · rw [if_neg c5] at H
        have c5b0 : (a0_2.toList == a1_2.toList) = false := beq_eq_false_iff_ne.mpr c5
        have c5b1 : (a0_2.toList != a1_2.toList) = true := bne_iff_ne.mpr c5
        obtain rfl := Option.some.inj H
        go_enter Tryz.func36, Tryz.ntmps36
        go_wp2_with (first | ((with_reducible refine gate_dst (N := 2) rfl ?_); refine box_event ?hg (N := 2) ?hd (cs := #[.int .i64 a0_0, .string a0_1, .string a0_2, .slice A0_3 l0_3.length c0_3, .bool a0_4]) (t := 28) ?hr ?_; (case hd => rfl); (case hg => rfl); (case hr => first | (go_simp; done) | (go_simp; rfl)); intro gb103 hg w18 hbox hb; have n0_ := Aside0.mk (below_step (by repeat (first | (with_reducible first | exact HB.out | apply below_alloc | apply pw_below_drewN | apply below_drew1) | exact HB.out)) hb); have n1_ := Aside0.mk (hbox); have n2_ := Aside0.mk ((by rw [hg]; exact (below_size (by repeat (first | (with_reducible first | exact HB.out | apply below_alloc | apply pw_below_drewN | apply below_drew1) | exact HB.out))) : w.heap.size ≤ gb103)); have n3_ := Aside0.mk ((by rw [hg]; exact (below_size (by repeat (first | (with_reducible first | exact HB.out | apply below_alloc | apply pw_below_drewN | apply below_drew1) | exact HB.out))) : w.heap.size ≤ gb103)); clear HB; have HB := n0_; have BK103 := n1_; have GW103 := n2_; have GE103 := n3_; clear n0_ n1_ n2_ n3_; clear hb hbox hg) | ((with_reducible refine gate_dst (N := 3) rfl ?_); refine box_event ?hg (N := 3) ?hd (cs := #[.int .i64 a1_0, .string a1_1, .string a1_2, .slice A1_3 l1_3.length c1_3, .bool a1_4]) (t := 28) ?hr ?_; (case hd => rfl); (case hg => rfl); (case hr => first | (go_simp; done) | (go_simp; rfl)); intro gb104 hg w19 hbox hb; have n0_ := Aside0.mk (blk_below (g := gb103) (o := .cells #[.int .i64 a0_0, .string a0_1, .string a0_2, .slice A0_3 l0_3.length c0_3, .bool a0_4] 28 (0, 0)) (by (with_reducible repeat (first | refine blk_drewN ?_ _ | refine blk_drew ?_ | refine blk_alloc ?_ _)); exact BK103.out) hb); have n1_ := Aside0.mk (below_step (by repeat (first | (with_reducible first | exact HB.out | apply below_alloc | apply pw_below_drewN | apply below_drew1 | refine below_set ?_ GE103.out) | exact HB.out)) hb); have n2_ := Aside0.mk (hbox); have n3_ := Aside0.mk ((by rw [hg]; exact (below_size (by repeat (first | (with_reducible first | exact HB.out | apply below_alloc | apply pw_below_drewN | apply below_drew1 | refine below_set ?_ GE103.out) | exact HB.out))) : w.heap.size ≤ gb104)); have n4_ := Aside0.mk ((by rw [hg]; exact (below_size (by repeat (first | (with_reducible first | exact HB.out | apply below_alloc | apply pw_below_drewN | apply below_drew1 | refine below_set ?_ GE103.out) | exact HB.out))) : w.heap.size ≤ gb104)); have n5_ := Aside0.mk ((by rw [hg]; exact Nat.ne_of_lt (blk_lt (g := gb103) (o := .cells #[.int .i64 a0_0, .string a0_1, .string a0_2, .slice A0_3 l0_3.length c0_3, .bool a0_4] 28 (0, 0)) (by (with_reducible repeat (first | refine blk_drewN ?_ _ | refine blk_drew ?_ | refine blk_alloc ?_ _)); exact BK103.out)) : gb103 ≠ gb104)); have n6_ := Aside0.mk ((by rw [hg]; exact Nat.ne_of_gt (blk_lt (g := gb103) (o := .cells #[.int .i64 a0_0, .string a0_1, .string a0_2, .slice A0_3 l0_3.length c0_3, .bool a0_4] 28 (0, 0)) (by (with_reducible repeat (first | refine blk_drewN ?_ _ | refine blk_drew ?_ | refine blk_alloc ?_ _)); exact BK103.out)) : gb104 ≠ gb103)); clear BK103; clear HB; have BK103 := n0_; have HB := n1_; have BK104 := n2_; have GW104 := n3_; have GE104 := n4_; have NB103_104 := n5_; have NB104_103 := n6_; clear n0_ n1_ n2_ n3_ n4_ n5_ n6_; clear hb hbox hg; have hnb20 := NB103_104.out; have hnc20 := NB104_103.out; have hcz21_0 : w19.cell? ⟨gb103, 0, none⟩ = some (.int .i64 a0_0) := (blk_cell BK103.out 0).trans rfl; have hcz21_1 : w19.cell? ⟨gb103, 1, none⟩ = some (.string a0_1) := (blk_cell BK103.out 1).trans rfl; have hcz21_2 : w19.cell? ⟨gb103, 2, none⟩ = some (.string a0_2) := (blk_cell BK103.out 2).trans rfl; have hcz21_3 : w19.cell? ⟨gb103, 3, none⟩ = some (.slice A0_3 l0_3.length c0_3) := (blk_cell BK103.out 3).trans rfl; have hcz21_4 : w19.cell? ⟨gb103, 4, none⟩ = some (.bool a0_4) := (blk_cell BK103.out 4).trans rfl; have hfz21_0 := blk_frozen BK103.out 0; have hfz21_1 := blk_frozen BK103.out 1; have hfz21_2 := blk_frozen BK103.out 2; have hfz21_3 := blk_frozen BK103.out 3; have hfz21_4 := blk_frozen BK103.out 4; have hcz22_0 : w19.cell? ⟨gb104, 0, none⟩ = some (.int .i64 a1_0) := (blk_cell BK104.out 0).trans rfl; have hcz22_1 : w19.cell? ⟨gb104, 1, none⟩ = some (.string a1_1) := (blk_cell BK104.out 1).trans rfl; have hcz22_2 : w19.cell? ⟨gb104, 2, none⟩ = some (.string a1_2) := (blk_cell BK104.out 2).trans rfl; have hcz22_3 : w19.cell? ⟨gb104, 3, none⟩ = some (.slice A1_3 l1_3.length c1_3) := (blk_cell BK104.out 3).trans rfl; have hcz22_4 : w19.cell? ⟨gb104, 4, none⟩ = some (.bool a1_4) := (blk_cell BK104.out 4).trans rfl; have hfz22_0 := blk_frozen BK104.out 0; have hfz22_1 := blk_frozen BK104.out 1; have hfz22_2 := blk_frozen BK104.out 2; have hfz22_3 := blk_frozen BK104.out 3; have hfz22_4 := blk_frozen BK104.out 4))
        go_ret
        exact ⟨by first | rfl | (simp [errW_none, errW_some] <;> rfl) | (simp [*, errW_none, errW_some] <;> rfl), by repeat (first | (with_reducible first | exact HB.out | apply below_alloc | apply pw_below_drewN | apply below_drew1 | refine below_set ?_ GE103.out | refine below_set ?_ GE104.out) | exact HB.out)⟩
    · rw [if_neg c4] at H
      have c4b0 : (a0_1.toList == a1_1.toList) = false := beq_eq_false_iff_ne.mpr c4
      have c4b1 : (a0_1.toList != a1_1.toList) = true := bne_iff_ne.mpr c4
      obtain rfl := Option.some.inj H
      go_enter Tryz.func36, Tryz.ntmps36
      go_wp2_with (first | ((with_reducible refine gate_dst (N := 2) rfl ?_); refine box_event ?hg (N := 2) ?hd (cs := #[.int .i64 a0_0, .string a0_1, .string a0_2, .slice A0_3 l0_3.length c0_3, .bool a0_4]) (t := 28) ?hr ?_; (case hd => rfl); (case hg => rfl); (case hr => first | (go_simp; done) | (go_simp; rfl)); intro gb103 hg w23 hbox hb; have n0_ := Aside0.mk (below_step (by repeat (first | (with_reducible first | exact HB.out | apply below_alloc | apply pw_below_drewN | apply below_drew1) | exact HB.out)) hb); have n1_ := Aside0.mk (hbox); have n2_ := Aside0.mk ((by rw [hg]; exact (below_size (by repeat (first | (with_reducible first | exact HB.out | apply below_alloc | apply pw_below_drewN | apply below_drew1) | exact HB.out))) : w.heap.size ≤ gb103)); have n3_ := Aside0.mk ((by rw [hg]; exact (below_size (by repeat (first | (with_reducible first | exact HB.out | apply below_alloc | apply pw_below_drewN | apply below_drew1) | exact HB.out))) : w.heap.size ≤ gb103)); clear HB; have HB := n0_; have BK103 := n1_; have GW103 := n2_; have GE103 := n3_; clear n0_ n1_ n2_ n3_; clear hb hbox hg) | ((with_reducible refine gate_dst (N := 3) rfl ?_); refine box_event ?hg (N := 3) ?hd (cs := #[.int .i64 a1_0, .string a1_1, .string a1_2, .slice A1_3 l1_3.length c1_3, .bool a1_4]) (t := 28) ?hr ?_; (case hd => rfl); (case hg => rfl); (case hr => first | (go_simp; done) | (go_simp; rfl)); intro gb104 hg w24 hbox hb; have n0_ := Aside0.mk (blk_below (g := gb103) (o := .cells #[.int .i64 a0_0, .string a0_1, .string a0_2, .slice A0_3 l0_3.length c0_3, .bool a0_4] 28 (0, 0)) (by (with_reducible repeat (first | refine blk_drewN ?_ _ | refine blk_drew ?_ | refine blk_alloc ?_ _)); exact BK103.out) hb); have n1_ := Aside0.mk (below_step (by repeat (first | (with_reducible first | exact HB.out | apply below_alloc | apply pw_below_drewN | apply below_drew1 | refine below_set ?_ GE103.out) | exact HB.out)) hb); have n2_ := Aside0.mk (hbox); have n3_ := Aside0.mk ((by rw [hg]; exact (below_size (by repeat (first | (with_reducible first | exact HB.out | apply below_alloc | apply pw_below_drewN | apply below_drew1 | refine below_set ?_ GE103.out) | exact HB.out))) : w.heap.size ≤ gb104)); have n4_ := Aside0.mk ((by rw [hg]; exact (below_size (by repeat (first | (with_reducible first | exact HB.out | apply below_alloc | apply pw_below_drewN | apply below_drew1 | refine below_set ?_ GE103.out) | exact HB.out))) : w.heap.size ≤ gb104)); have n5_ := Aside0.mk ((by rw [hg]; exact Nat.ne_of_lt (blk_lt (g := gb103) (o := .cells #[.int .i64 a0_0, .string a0_1, .string a0_2, .slice A0_3 l0_3.length c0_3, .bool a0_4] 28 (0, 0)) (by (with_reducible repeat (first | refine blk_drewN ?_ _ | refine blk_drew ?_ | refine blk_alloc ?_ _)); exact BK103.out)) : gb103 ≠ gb104)); have n6_ := Aside0.mk ((by rw [hg]; exact Nat.ne_of_gt (blk_lt (g := gb103) (o := .cells #[.int .i64 a0_0, .string a0_1, .string a0_2, .slice A0_3 l0_3.length c0_3, .bool a0_4] 28 (0, 0)) (by (with_reducible repeat (first | refine blk_drewN ?_ _ | refine blk_drew ?_ | refine blk_alloc ?_ _)); exact BK103.out)) : gb104 ≠ gb103)); clear BK103; clear HB; have BK103 := n0_; have HB := n1_; have BK104 := n2_; have GW104 := n3_; have GE104 := n4_; have NB103_104 := n5_; have NB104_103 := n6_; clear n0_ n1_ n2_ n3_ n4_ n5_ n6_; clear hb hbox hg; have hnb25 := NB103_104.out; have hnc25 := NB104_103.out; have hcz26_0 : w24.cell? ⟨gb103, 0, none⟩ = some (.int .i64 a0_0) := (blk_cell BK103.out 0).trans rfl; have hcz26_1 : w24.cell? ⟨gb103, 1, none⟩ = some (.string a0_1) := (blk_cell BK103.out 1).trans rfl; have hcz26_2 : w24.cell? ⟨gb103, 2, none⟩ = some (.string a0_2) := (blk_cell BK103.out 2).trans rfl; have hcz26_3 : w24.cell? ⟨gb103, 3, none⟩ = some (.slice A0_3 l0_3.length c0_3) := (blk_cell BK103.out 3).trans rfl; have hcz26_4 : w24.cell? ⟨gb103, 4, none⟩ = some (.bool a0_4) := (blk_cell BK103.out 4).trans rfl; have hfz26_0 := blk_frozen BK103.out 0; have hfz26_1 := blk_frozen BK103.out 1; have hfz26_2 := blk_frozen BK103.out 2; have hfz26_3 := blk_frozen BK103.out 3; have hfz26_4 := blk_frozen BK103.out 4; have hcz27_0 : w24.cell? ⟨gb104, 0, none⟩ = some (.int .i64 a1_0) := (blk_cell BK104.out 0).trans rfl; have hcz27_1 : w24.cell? ⟨gb104, 1, none⟩ = some (.string a1_1) := (blk_cell BK104.out 1).trans rfl; have hcz27_2 : w24.cell? ⟨gb104, 2, none⟩ = some (.string a1_2) := (blk_cell BK104.out 2).trans rfl; have hcz27_3 : w24.cell? ⟨gb104, 3, none⟩ = some (.slice A1_3 l1_3.length c1_3) := (blk_cell BK104.out 3).trans rfl; have hcz27_4 : w24.cell? ⟨gb104, 4, none⟩ = some (.bool a1_4) := (blk_cell BK104.out 4).trans rfl; have hfz27_0 := blk_frozen BK104.out 0; have hfz27_1 := blk_frozen BK104.out 1; have hfz27_2 := blk_frozen BK104.out 2; have hfz27_3 := blk_frozen BK104.out 3; have hfz27_4 := blk_frozen BK104.out 4))
      go_ret
      exact ⟨by first | rfl | (simp [errW_none, errW_some] <;> rfl) | (simp [*, errW_none, errW_some] <;> rfl), by repeat (first | (with_reducible first | exact HB.out | apply below_alloc | apply pw_below_drewN | apply below_drew1 | refine below_set ?_ GE103.out | refine below_set ?_ GE104.out) | exact HB.out)⟩
  · rw [if_neg c3] at H
    have c3b0 : (a0_0 == a1_0) = false := beq_eq_false_iff_ne.mpr c3
    have c3b1 : (a0_0 != a1_0) = true := bne_iff_ne.mpr c3
    obtain rfl := Option.some.inj H
    go_enter Tryz.func36, Tryz.ntmps36
    go_wp2_with (first | ((with_reducible refine gate_dst (N := 2) rfl ?_); refine box_event ?hg (N := 2) ?hd (cs := #[.int .i64 a0_0, .string a0_1, .string a0_2, .slice A0_3 l0_3.length c0_3, .bool a0_4]) (t := 28) ?hr ?_; (case hd => rfl); (case hg => rfl); (case hr => first | (go_simp; done) | (go_simp; rfl)); intro gb103 hg w28 hbox hb; have n0_ := Aside0.mk (below_step (by repeat (first | (with_reducible first | exact HB.out | apply below_alloc | apply pw_below_drewN | apply below_drew1) | exact HB.out)) hb); have n1_ := Aside0.mk (hbox); have n2_ := Aside0.mk ((by rw [hg]; exact (below_size (by repeat (first | (with_reducible first | exact HB.out | apply below_alloc | apply pw_below_drewN | apply below_drew1) | exact HB.out))) : w.heap.size ≤ gb103)); have n3_ := Aside0.mk ((by rw [hg]; exact (below_size (by repeat (first | (with_reducible first | exact HB.out | apply below_alloc | apply pw_below_drewN | apply below_drew1) | exact HB.out))) : w.heap.size ≤ gb103)); clear HB; have HB := n0_; have BK103 := n1_; have GW103 := n2_; have GE103 := n3_; clear n0_ n1_ n2_ n3_; clear hb hbox hg) | ((with_reducible refine gate_dst (N := 3) rfl ?_); refine box_event ?hg (N := 3) ?hd (cs := #[.int .i64 a1_0, .string a1_1, .string a1_2, .slice A1_3 l1_3.length c1_3, .bool a1_4]) (t := 28) ?hr ?_; (case hd => rfl); (case hg => rfl); (case hr => first | (go_simp; done) | (go_simp; rfl)); intro gb104 hg w29 hbox hb; have n0_ := Aside0.mk (blk_below (g := gb103) (o := .cells #[.int .i64 a0_0, .string a0_1, .string a0_2, .slice A0_3 l0_3.length c0_3, .bool a0_4] 28 (0, 0)) (by (with_reducible repeat (first | refine blk_drewN ?_ _ | refine blk_drew ?_ | refine blk_alloc ?_ _)); exact BK103.out) hb); have n1_ := Aside0.mk (below_step (by repeat (first | (with_reducible first | exact HB.out | apply below_alloc | apply pw_below_drewN | apply below_drew1 | refine below_set ?_ GE103.out) | exact HB.out)) hb); have n2_ := Aside0.mk (hbox); have n3_ := Aside0.mk ((by rw [hg]; exact (below_size (by repeat (first | (with_reducible first | exact HB.out | apply below_alloc | apply pw_below_drewN | apply below_drew1 | refine below_set ?_ GE103.out) | exact HB.out))) : w.heap.size ≤ gb104)); have n4_ := Aside0.mk ((by rw [hg]; exact (below_size (by repeat (first | (with_reducible first | exact HB.out | apply below_alloc | apply pw_below_drewN | apply below_drew1 | refine below_set ?_ GE103.out) | exact HB.out))) : w.heap.size ≤ gb104)); have n5_ := Aside0.mk ((by rw [hg]; exact Nat.ne_of_lt (blk_lt (g := gb103) (o := .cells #[.int .i64 a0_0, .string a0_1, .string a0_2, .slice A0_3 l0_3.length c0_3, .bool a0_4] 28 (0, 0)) (by (with_reducible repeat (first | refine blk_drewN ?_ _ | refine blk_drew ?_ | refine blk_alloc ?_ _)); exact BK103.out)) : gb103 ≠ gb104)); have n6_ := Aside0.mk ((by rw [hg]; exact Nat.ne_of_gt (blk_lt (g := gb103) (o := .cells #[.int .i64 a0_0, .string a0_1, .string a0_2, .slice A0_3 l0_3.length c0_3, .bool a0_4] 28 (0, 0)) (by (with_reducible repeat (first | refine blk_drewN ?_ _ | refine blk_drew ?_ | refine blk_alloc ?_ _)); exact BK103.out)) : gb104 ≠ gb103)); clear BK103; clear HB; have BK103 := n0_; have HB := n1_; have BK104 := n2_; have GW104 := n3_; have GE104 := n4_; have NB103_104 := n5_; have NB104_103 := n6_; clear n0_ n1_ n2_ n3_ n4_ n5_ n6_; clear hb hbox hg; have hnb30 := NB103_104.out; have hnc30 := NB104_103.out; have hcz31_0 : w29.cell? ⟨gb103, 0, none⟩ = some (.int .i64 a0_0) := (blk_cell BK103.out 0).trans rfl; have hcz31_1 : w29.cell? ⟨gb103, 1, none⟩ = some (.string a0_1) := (blk_cell BK103.out 1).trans rfl; have hcz31_2 : w29.cell? ⟨gb103, 2, none⟩ = some (.string a0_2) := (blk_cell BK103.out 2).trans rfl; have hcz31_3 : w29.cell? ⟨gb103, 3, none⟩ = some (.slice A0_3 l0_3.length c0_3) := (blk_cell BK103.out 3).trans rfl; have hcz31_4 : w29.cell? ⟨gb103, 4, none⟩ = some (.bool a0_4) := (blk_cell BK103.out 4).trans rfl; have hfz31_0 := blk_frozen BK103.out 0; have hfz31_1 := blk_frozen BK103.out 1; have hfz31_2 := blk_frozen BK103.out 2; have hfz31_3 := blk_frozen BK103.out 3; have hfz31_4 := blk_frozen BK103.out 4; have hcz32_0 : w29.cell? ⟨gb104, 0, none⟩ = some (.int .i64 a1_0) := (blk_cell BK104.out 0).trans rfl; have hcz32_1 : w29.cell? ⟨gb104, 1, none⟩ = some (.string a1_1) := (blk_cell BK104.out 1).trans rfl; have hcz32_2 : w29.cell? ⟨gb104, 2, none⟩ = some (.string a1_2) := (blk_cell BK104.out 2).trans rfl; have hcz32_3 : w29.cell? ⟨gb104, 3, none⟩ = some (.slice A1_3 l1_3.length c1_3) := (blk_cell BK104.out 3).trans rfl; have hcz32_4 : w29.cell? ⟨gb104, 4, none⟩ = some (.bool a1_4) := (blk_cell BK104.out 4).trans rfl; have hfz32_0 := blk_frozen BK104.out 0; have hfz32_1 := blk_frozen BK104.out 1; have hfz32_2 := blk_frozen BK104.out 2; have hfz32_3 := blk_frozen BK104.out 3; have hfz32_4 := blk_frozen BK104.out 4))
    go_ret
    exact ⟨by first | rfl | (simp [errW_none, errW_some] <;> rfl) | (simp [*, errW_none, errW_some] <;> rfl), by repeat (first | (with_reducible first | exact HB.out | apply below_alloc | apply pw_below_drewN | apply below_drew1 | refine below_set ?_ GE103.out | refine below_set ?_ GE104.out) | exact HB.out)⟩
def flailref09_All.l0 : Nat → List (S28) → List (S28) → Int → Option (Bool)
  | 0, _, _, _ => none
  | k + 1, x0, x1, x5 => if x5 < (x0.length : Int) then (if 0 ≤ x5 then (if x5 < (x1.length : Int) then ((flailref09_Same.f k ((rd_T28 x0 x5).f0) ((rd_T28 x0 x5).f1) ((rd_T28 x0 x5).f2) ((rd_T28 x0 x5).f3) ((rd_T28 x0 x5).f4) ((rd_T28 x1 x5).f0) ((rd_T28 x1 x5).f1) ((rd_T28 x1 x5).f2) ((rd_T28 x1 x5).f3) ((rd_T28 x1 x5).f4)).bind fun t108 => (if t108 = true then (flailref09_All.l0 k x0 x1 (wrap64 (x5 + 1))) else (some false))) else (none)) else (none)) else (some true)
def flailref09_All.f (k : Nat) (l0 : List (S28)) (l1 : List (S28)) : Option (Bool) := if (l0.length : Int) = (l1.length : Int) then (flailref09_All.l0 k l0 l1 0) else (some false)
def flailref09_All.T6 : Bool × List (List Nat × List Nat) := (true, [([], []), ([], []), ([0, 1], [0, 1]), ([2], [2]), ([], []), ([], []), ([4, 5], [4, 5]), ([6], [6]), ([3, 7], [3, 7]), ([8], [8])])
def flailref09_All.B6 : List Nat := [0, 0, 3, 7, 0, 0, 48, 112, 255, 511]
theorem flailref09_All.tab6 : rtab .any (opsOf Tryz.f14 6) = flailref09_All.T6 := by kernel_rfl
theorem flailref09_All.bits6 : waitsOk flailref09_All.T6.2 flailref09_All.B6 = true := by kernel_rfl
set_option maxHeartbeats 8000000 in
set_option maxRecDepth 100000 in
theorem flailref09_All.calls (k : Nat) (A0 : Option Addr) (c0 : Nat) (l0 : List (S28)) (A1 : Option Addr) (c1 : Nat) (l1 : List (S28)) (r : Bool) (w : World) (hr0 : Kd.C k28 w A0 l0.length l0) (hc0 : l0.length ≤ c0) (hr1 : Kd.C k28 w A1 l1.length l1) (hc1 : l1.length ≤ c1) (h : flailref09_All.f k l0 l1 = some r) :
    Calls Tryz.prog 14 #[.slice A0 l0.length c0, .slice A1 l1.length c1] w fun e w' => e = .returned (.bool r) ∧ Below w.heap.size w w' := by
  have hu28 := Tryz.underlying28
  have HR0 := Aside0.mk hr0
  have HC0 := Aside0.mk hc0
  clear hr0 hc0
  have HR1 := Aside0.mk hr1
  have HC1 := Aside0.mk hc1
  clear hr1 hc1
  have HB := Aside0.mk (Below.refl w.heap.size w)
  have H : (if (l0.length : Int) = (l1.length : Int) then (flailref09_All.l0 k l0 l1 0) else (some false)) = some r := h
  clear h
  by_cases c3 : (l0.length : Int) = (l1.length : Int)
  · rw [if_pos c3] at H
    have c3b0 : ((l0.length : Int) == (l1.length : Int)) = true := beq_iff_eq.mpr c3
    have c3b1 : ((l0.length : Int) != (l1.length : Int)) = false := bne_eq_false_iff_eq.mpr c3
    have c3b2 : (l0.length == l1.length) = true := by first | simpa using c3 | (simp at c3 ⊢; omega)
    clear c3
    have H' := Aside0.mk H
    clear H
    go_enter Tryz.func14, Tryz.ntmps14
    go_wp2
    go_loopg [5] k (fun kq v5 w' => ∃ (x5_1 : Int), v5 = .int .i64 x5_1 ∧ Aside0 (flailref09_All.l0 kq l0 l1 x5_1 = some r) ∧ Aside0 (kq ≤ k) ∧ Aside0 (Below w.heap.size w w'))
    case atStart => exact ⟨(0), (by first | rfl | (simp; done) | (simp [*]; done)), H', ⟨Nat.le_refl _⟩, ⟨by repeat (first | (with_reducible first | exact HB.out | apply below_alloc | apply pw_below_drewN | apply below_drew1) | exact HB.out)⟩⟩
    case round =>
      clear H'
      try clear c1
      try clear p2
      try clear c3
      try clear c3b0
      try clear c3b1
      try clear c3b2
      obtain ⟨x5_1, rfl, HA, HK1, HB⟩ := hrel
      cases gk with
      | zero => exact absurd HA.out (by simp [flailref09_All.l0])
      | succ k1 =>
        have H := HA.out
        clear HA
        simp only [flailref09_All.l0] at H
        by_cases c4 : x5_1 < (l0.length : Int)
        · rw [if_pos c4] at H
          have c4b0 : decide (x5_1 < (l0.length : Int)) = true := decide_eq_true c4
          clear c4
          by_cases c5 : 0 ≤ x5_1
          · rw [if_pos c5] at H
            have c5b0 : decide (0 ≤ x5_1) = true := decide_eq_true c5
            clear c5
            by_cases c6 : x5_1 < (l1.length : Int)
            · rw [if_pos c6] at H
              have c6b0 : decide (x5_1 < (l1.length : Int)) = true := decide_eq_true c6
              clear c6
              replace H := Option.bind_eq_some_iff.mp H
              obtain ⟨t108, A70, H⟩ := H
              replace H : (if t108 = true then (flailref09_All.l0 k1 l0 l1 (wrap64 (x5_1 + 1))) else (some false)) = some r := H
              have A7 := Aside0.mk A70
              clear A70
              by_cases c8 : t108 = true
              · subst c8
                have H1 : (flailref09_All.l0 k1 l0 l1 (wrap64 (x5_1 + 1))) = some r := by rw [if_pos rfl] at H; exact H
                clear H
                have H := H1
                clear H1
                have H' := Aside0.mk H
                clear H
                try go_wp2
                have n0_ := Aside0.mk (below_drew1 HB.out)
                clear HB
                have HB := n0_
                clear n0_
                have p106 : 0 ≤ (x5_1 : Int) := of_decide_eq_true (by first | (with_reducible assumption) | assumption)
                have q106 : x5_1 < (l0.length : Int) := of_decide_eq_true (by first | (with_reducible assumption) | assumption)
                obtain ⟨ad106, A106_3, c106_3, e106, hx106_0, hx106_1, hx106_2, hx106_3, hx106_4, hl106_3, hi106_3⟩ := at_T28 HR0.out x5_1 p106 q106
                have hw106_4 := hx106_4
                have hw106_3 := hx106_3
                have hw106_2 := hx106_2
                have hw106_1 := hx106_1
                have hw106_0 := hx106_0
                cases e106
                replace hx106_0 := (HB.out.cell (World.block_lt_of_cell? w _ hx106_0)).trans hx106_0
                replace hx106_1 := (HB.out.cell (World.block_lt_of_cell? w _ hx106_1)).trans hx106_1
                replace hx106_2 := (HB.out.cell (World.block_lt_of_cell? w _ hx106_2)).trans hx106_2
                replace hx106_3 := (HB.out.cell (World.block_lt_of_cell? w _ hx106_3)).trans hx106_3
                replace hx106_4 := (HB.out.cell (World.block_lt_of_cell? w _ hx106_4)).trans hx106_4
                have HR106_3 := Aside0.mk hi106_3
                have HC106_3 := Aside0.mk hl106_3
                clear hi106_3 hl106_3
                replace p106 := eq_true p106
                replace q106 := eq_true q106
                have p107 : 0 ≤ (x5_1 : Int) := of_decide_eq_true (by first | (with_reducible assumption) | assumption)
                have q107 : x5_1 < (l1.length : Int) := of_decide_eq_true (by first | (with_reducible assumption) | assumption)
                obtain ⟨ad107, A107_3, c107_3, e107, hx107_0, hx107_1, hx107_2, hx107_3, hx107_4, hl107_3, hi107_3⟩ := at_T28 HR1.out x5_1 p107 q107
                have hw107_4 := hx107_4
                have hw107_3 := hx107_3
                have hw107_2 := hx107_2
                have hw107_1 := hx107_1
                have hw107_0 := hx107_0
                cases e107
                replace hx107_0 := (HB.out.cell (World.block_lt_of_cell? w _ hx107_0)).trans hx107_0
                replace hx107_1 := (HB.out.cell (World.block_lt_of_cell? w _ hx107_1)).trans hx107_1
                replace hx107_2 := (HB.out.cell (World.block_lt_of_cell? w _ hx107_2)).trans hx107_2
                replace hx107_3 := (HB.out.cell (World.block_lt_of_cell? w _ hx107_3)).trans hx107_3
                replace hx107_4 := (HB.out.cell (World.block_lt_of_cell? w _ hx107_4)).trans hx107_4
                have HR107_3 := Aside0.mk hi107_3
                have HC107_3 := Aside0.mk hl107_3
                clear hi107_3 hl107_3
                replace p107 := eq_true p107
                replace q107 := eq_true q107
                refine start_ (n := 10) (S := fun w' => w'.cell? (ad106.add ((x5_1).toNat * 5)) = some (.int .i64 ((rd_T28 l0 x5_1).f0)) ∧ w'.cell? ⟨(ad106.add ((x5_1).toNat * 5)).block, (ad106.add ((x5_1).toNat * 5)).off + 1, none⟩ = some (.string ((rd_T28 l0 x5_1).f1)) ∧ w'.cell? ⟨(ad106.add ((x5_1).toNat * 5)).block, (ad106.add ((x5_1).toNat * 5)).off + 2, none⟩ = some (.string ((rd_T28 l0 x5_1).f2)) ∧ w'.cell? ⟨(ad106.add ((x5_1).toNat * 5)).block, (ad106.add ((x5_1).toNat * 5)).off + 3, none⟩ = some (.slice A106_3 ((rd_T28 l0 x5_1).f3).length c106_3) ∧ w'.cell? ⟨(ad106.add ((x5_1).toNat * 5)).block, (ad106.add ((x5_1).toNat * 5)).off + 4, none⟩ = some (.bool ((rd_T28 l0 x5_1).f4)) ∧ w'.cell? (ad107.add ((x5_1).toNat * 5)) = some (.int .i64 ((rd_T28 l1 x5_1).f0)) ∧ w'.cell? ⟨(ad107.add ((x5_1).toNat * 5)).block, (ad107.add ((x5_1).toNat * 5)).off + 1, none⟩ = some (.string ((rd_T28 l1 x5_1).f1)) ∧ w'.cell? ⟨(ad107.add ((x5_1).toNat * 5)).block, (ad107.add ((x5_1).toNat * 5)).off + 2, none⟩ = some (.string ((rd_T28 l1 x5_1).f2)) ∧ w'.cell? ⟨(ad107.add ((x5_1).toNat * 5)).block, (ad107.add ((x5_1).toNat * 5)).off + 3, none⟩ = some (.slice A107_3 ((rd_T28 l1 x5_1).f3).length c107_3) ∧ w'.cell? ⟨(ad107.add ((x5_1).toNat * 5)).block, (ad107.add ((x5_1).toNat * 5)).off + 4, none⟩ = some (.bool ((rd_T28 l1 x5_1).f4))) (ds := []) #[false, false, false, false, false, false, false, false, false, false] (by kernel_rfl) rfl rfl ⟨((HB.out.cell (World.block_lt_of_cell? w _ hw106_0)).trans hw106_0), ((HB.out.cell (World.block_lt_of_cell? w _ hw106_1)).trans hw106_1), ((HB.out.cell (World.block_lt_of_cell? w _ hw106_2)).trans hw106_2), ((HB.out.cell (World.block_lt_of_cell? w _ hw106_3)).trans hw106_3), ((HB.out.cell (World.block_lt_of_cell? w _ hw106_4)).trans hw106_4), ((HB.out.cell (World.block_lt_of_cell? w _ hw107_0)).trans hw107_0), ((HB.out.cell (World.block_lt_of_cell? w _ hw107_1)).trans hw107_1), ((HB.out.cell (World.block_lt_of_cell? w _ hw107_2)).trans hw107_2), ((HB.out.cell (World.block_lt_of_cell? w _ hw107_3)).trans hw107_3), ((HB.out.cell (World.block_lt_of_cell? w _ hw107_4)).trans hw107_4)⟩ (fun hHeld => ?_); refine with_tabW flailref09_All.tab6 flailref09_All.bits6 (fun HT_ HW_ => ?_)
                generalize wr.drew = w9 at HB HR106_3 HR107_3 hx106_0 hx106_1 hx106_2 hx106_3 hx106_4 hx107_0 hx107_1 hx107_2 hx107_3 hx107_4 hHeld ⊢
                refine pure_ (i := 0) (N := some 17) (v := ?_) (a' := ?_) #[true, false, false, false, false, false, false, false, false, false] rfl rfl (any_of HT_.out (by kernel_rfl)) (fun _ _ _ h => h) (Or.inl ⟨by rfl, ?_⟩) ?_ ?_
                rotate_left
                · intro w'
                  go_simp
                  with_reducible rfl
                rotate_left
                · simp only [Act.put, List.setIfInBounds_toArray, List.set_cons_zero, List.set_cons_succ, i64_w, i32_w]
                  rfl
                refine pure_ (i := 1) (N := some 18) (v := ?_) (a' := ?_) #[true, true, false, false, false, false, false, false, false, false] rfl rfl (any_of HT_.out (by kernel_rfl)) (fun _ _ _ h => h) (Or.inl ⟨by rfl, ?_⟩) ?_ ?_
                rotate_left
                · intro w'
                  go_simp
                  with_reducible rfl
                rotate_left
                · simp only [Act.put, List.setIfInBounds_toArray, List.set_cons_zero, List.set_cons_succ, i64_w, i32_w]
                  rfl
                refine pure_ (i := 2) (N := some 19) (v := ?_) (a' := ?_) #[true, true, true, false, false, false, false, false, false, false] rfl rfl (any_of HT_.out (by kernel_rfl)) (fun _ _ _ h => h) (Or.inl ⟨by rfl, ?_⟩) ?_ ?_
                rotate_left
                · intro w'
                  go_simp
                  with_reducible rfl
                rotate_left
                · simp only [Act.put, List.setIfInBounds_toArray, List.set_cons_zero, List.set_cons_succ, i64_w, i32_w]
                  rfl
                refine pure_ (i := 4) (N := some 21) (v := ?_) (a' := ?_) #[true, true, true, false, true, false, false, false, false, false] rfl rfl (any_of HT_.out (by kernel_rfl)) (fun _ _ _ h => h) (Or.inl ⟨by rfl, ?_⟩) ?_ ?_
                rotate_left
                · intro w'
                  go_simp
                  with_reducible rfl
                rotate_left
                · simp only [Act.put, List.setIfInBounds_toArray, List.set_cons_zero, List.set_cons_succ, i64_w, i32_w]
                  rfl
                refine pure_ (i := 5) (N := some 22) (v := ?_) (a' := ?_) #[true, true, true, false, true, true, false, false, false, false] rfl rfl (any_of HT_.out (by kernel_rfl)) (fun _ _ _ h => h) (Or.inl ⟨by rfl, ?_⟩) ?_ ?_
                rotate_left
                · intro w'
                  go_simp
                  with_reducible rfl
                rotate_left
                · simp only [Act.put, List.setIfInBounds_toArray, List.set_cons_zero, List.set_cons_succ, i64_w, i32_w]
                  rfl
                refine pure_ (i := 6) (N := some 23) (v := ?_) (a' := ?_) #[true, true, true, false, true, true, true, false, false, false] rfl rfl (any_of HT_.out (by kernel_rfl)) (fun _ _ _ h => h) (Or.inl ⟨by rfl, ?_⟩) ?_ ?_
                rotate_left
                · intro w'
                  go_simp
                  with_reducible rfl
                rotate_left
                · simp only [Act.put, List.setIfInBounds_toArray, List.set_cons_zero, List.set_cons_succ, i64_w, i32_w]
                  rfl
                refine take_ (i := 3) (N := some 20) (v := ?_) (a' := ?_) #[true, true, true, true, true, true, true, false, false, false] rfl rfl (take_ofW HT_.out HW_.out (by kernel_rfl)) (fun _ _ _ h => h) (Or.inl ⟨by rfl, ?_⟩) hHeld ?_ ?_
                rotate_left
                · rintro w' ⟨s0, s1, s2, s3, s4, s5, s6, s7, s8, s9⟩
                  go_simp
                  with_reducible rfl
                rotate_left
                · simp only [Act.put, List.setIfInBounds_toArray, List.set_cons_zero, List.set_cons_succ, i64_w, i32_w]
                  rfl
                refine take_ (i := 7) (N := some 24) (v := ?_) (a' := ?_) #[true, true, true, true, true, true, true, true, false, false] rfl rfl (take_ofW HT_.out HW_.out (by kernel_rfl)) (fun _ _ _ h => h) (Or.inl ⟨by rfl, ?_⟩) hHeld ?_ ?_
                rotate_left
                · rintro w' ⟨s0, s1, s2, s3, s4, s5, s6, s7, s8, s9⟩
                  go_simp
                  with_reducible rfl
                rotate_left
                · simp only [Act.put, List.setIfInBounds_toArray, List.set_cons_zero, List.set_cons_succ, i64_w, i32_w]
                  rfl
                refine one_ (i := 8) (N := some 25) #[true, true, true, true, true, true, true, true, true, false] rfl rfl (one_of HT_.out (by kernel_rfl)) (by decide) (fun K hK => ?_)
                refine goes_ Tryz.func36 (by kernel_rfl) rfl #[.agg #[.int .i64 ((rd_T28 l0 x5_1).f0), .string ((rd_T28 l0 x5_1).f1), .string ((rd_T28 l0 x5_1).f2), .slice A106_3 ((rd_T28 l0 x5_1).f3).length c106_3, .bool ((rd_T28 l0 x5_1).f4)], .agg #[.int .i64 ((rd_T28 l1 x5_1).f0), .string ((rd_T28 l1 x5_1).f1), .string ((rd_T28 l1 x5_1).f2), .slice A107_3 ((rd_T28 l1 x5_1).f3).length c107_3, .bool ((rd_T28 l1 x5_1).f4)]] (by rfl) rfl rfl (by (try simp only [List.map_toArray, List.map_cons, List.map_nil]); first | done | rfl | (simp only [List.length_drop, List.length_take]; rfl)) ?_
                with_reducible refine (flailref09_Same.calls k1 ((rd_T28 l0 x5_1).f0) ((rd_T28 l0 x5_1).f1) ((rd_T28 l0 x5_1).f2) _ _ ((rd_T28 l0 x5_1).f3) ((rd_T28 l0 x5_1).f4) ((rd_T28 l1 x5_1).f0) ((rd_T28 l1 x5_1).f1) ((rd_T28 l1 x5_1).f2) _ _ ((rd_T28 l1 x5_1).f3) ((rd_T28 l1 x5_1).f4) true _ ?side1 ?side2 ?side3 ?side4 A7.out).mono ?_
                (case side1 => repeat (first | exact (Kd.C_below HR106_3.out HB.out) | (with_reducible refine Kd.C_alloc ?_ _) | (with_reducible refine Kd.C_drewN ?_ _) | (with_reducible refine Kd.C_drew ?_)))
                (case side2 => exact HC106_3.out)
                (case side3 => repeat (first | exact (Kd.C_below HR107_3.out HB.out) | (with_reducible refine Kd.C_alloc ?_ _) | (with_reducible refine Kd.C_drewN ?_ _) | (with_reducible refine Kd.C_drew ?_)))
                (case side4 => exact HC107_3.out)
                rintro e w10 ⟨rfl, hb⟩
                refine ⟨_, rfl, ?_⟩
                have n0_ := Aside0.mk (below_step (by repeat (first | (with_reducible first | exact HB.out | apply below_alloc | apply pw_below_drewN | apply below_drew1) | exact HB.out)) hb)
                clear HB
                have HB := n0_
                clear n0_
                (try clear hb)
                (try clear hb2)
                (try clear hk)
                (try clear hi)
                refine hK.out _ _ ⟨((HB.out.cell (World.block_lt_of_cell? w _ hw106_0)).trans hw106_0), ((HB.out.cell (World.block_lt_of_cell? w _ hw106_1)).trans hw106_1), ((HB.out.cell (World.block_lt_of_cell? w _ hw106_2)).trans hw106_2), ((HB.out.cell (World.block_lt_of_cell? w _ hw106_3)).trans hw106_3), ((HB.out.cell (World.block_lt_of_cell? w _ hw106_4)).trans hw106_4), ((HB.out.cell (World.block_lt_of_cell? w _ hw107_0)).trans hw107_0), ((HB.out.cell (World.block_lt_of_cell? w _ hw107_1)).trans hw107_1), ((HB.out.cell (World.block_lt_of_cell? w _ hw107_2)).trans hw107_2), ((HB.out.cell (World.block_lt_of_cell? w _ hw107_3)).trans hw107_3), ((HB.out.cell (World.block_lt_of_cell? w _ hw107_4)).trans hw107_4)⟩ (fun hHeld => ?_)
                clear hK K
                refine norm_ (a' := ?_) ?_ ?_
                rotate_left
                · show Act.put _ (some 25) _ = _
                  simp only [Act.put, List.setIfInBounds_toArray, List.set_cons_zero, List.set_cons_succ, i64_w, i32_w]
                  rfl
                refine pure_ (i := 9) (N := some 26) (v := ?_) (a' := ?_) #[true, true, true, true, true, true, true, true, true, true] rfl rfl (any_of HT_.out (by kernel_rfl)) (fun _ _ _ h => h) (Or.inl ⟨by rfl, ?_⟩) ?_ ?_
                rotate_left
                · intro w'
                  go_simp
                  with_reducible rfl
                rotate_left
                · simp only [Act.put, List.setIfInBounds_toArray, List.set_cons_zero, List.set_cons_succ, i64_w, i32_w]
                  rfl
                refine done_ (done_of HT_.out (by kernel_rfl)) ?_
                try go_wp2
                go_roundg k1
                case measure => have := HK1.out; omega
                case rel => exact ⟨(wrap64 (x5_1 + 1)), (by first | rfl | (simp; done) | (simp [*]; done)), H', ⟨by have := HK1.out; omega⟩, ⟨by repeat (first | (with_reducible first | exact HB.out | apply below_alloc | apply pw_below_drewN | apply below_drew1) | exact HB.out)⟩⟩
              · replace c8 := Bool.eq_false_iff.mpr c8
                subst c8
                have H1 : (some false) = some r := by rw [if_neg (show ¬ (false = true) by decide)] at H; exact H
                clear H
                have H := H1
                clear H1
                obtain rfl := Option.some.inj H
                try go_wp2
                have n0_ := Aside0.mk (below_drew1 HB.out)
                clear HB
                have HB := n0_
                clear n0_
                have p106 : 0 ≤ (x5_1 : Int) := of_decide_eq_true (by first | (with_reducible assumption) | assumption)
                have q106 : x5_1 < (l0.length : Int) := of_decide_eq_true (by first | (with_reducible assumption) | assumption)
                obtain ⟨ad106, A106_3, c106_3, e106, hx106_0, hx106_1, hx106_2, hx106_3, hx106_4, hl106_3, hi106_3⟩ := at_T28 HR0.out x5_1 p106 q106
                have hw106_4 := hx106_4
                have hw106_3 := hx106_3
                have hw106_2 := hx106_2
                have hw106_1 := hx106_1
                have hw106_0 := hx106_0
                cases e106
                replace hx106_0 := (HB.out.cell (World.block_lt_of_cell? w _ hx106_0)).trans hx106_0
                replace hx106_1 := (HB.out.cell (World.block_lt_of_cell? w _ hx106_1)).trans hx106_1
                replace hx106_2 := (HB.out.cell (World.block_lt_of_cell? w _ hx106_2)).trans hx106_2
                replace hx106_3 := (HB.out.cell (World.block_lt_of_cell? w _ hx106_3)).trans hx106_3
                replace hx106_4 := (HB.out.cell (World.block_lt_of_cell? w _ hx106_4)).trans hx106_4
                have HR106_3 := Aside0.mk hi106_3
                have HC106_3 := Aside0.mk hl106_3
                clear hi106_3 hl106_3
                replace p106 := eq_true p106
                replace q106 := eq_true q106
                have p107 : 0 ≤ (x5_1 : Int) := of_decide_eq_true (by first | (with_reducible assumption) | assumption)
                have q107 : x5_1 < (l1.length : Int) := of_decide_eq_true (by first | (with_reducible assumption) | assumption)
                obtain ⟨ad107, A107_3, c107_3, e107, hx107_0, hx107_1, hx107_2, hx107_3, hx107_4, hl107_3, hi107_3⟩ := at_T28 HR1.out x5_1 p107 q107
                have hw107_4 := hx107_4
                have hw107_3 := hx107_3
                have hw107_2 := hx107_2
                have hw107_1 := hx107_1
                have hw107_0 := hx107_0
                cases e107
                replace hx107_0 := (HB.out.cell (World.block_lt_of_cell? w _ hx107_0)).trans hx107_0
                replace hx107_1 := (HB.out.cell (World.block_lt_of_cell? w _ hx107_1)).trans hx107_1
                replace hx107_2 := (HB.out.cell (World.block_lt_of_cell? w _ hx107_2)).trans hx107_2
                replace hx107_3 := (HB.out.cell (World.block_lt_of_cell? w _ hx107_3)).trans hx107_3
                replace hx107_4 := (HB.out.cell (World.block_lt_of_cell? w _ hx107_4)).trans hx107_4
                have HR107_3 := Aside0.mk hi107_3
                have HC107_3 := Aside0.mk hl107_3
                clear hi107_3 hl107_3
                replace p107 := eq_true p107
                replace q107 := eq_true q107
                refine start_ (n := 10) (S := fun w' => w'.cell? (ad106.add ((x5_1).toNat * 5)) = some (.int .i64 ((rd_T28 l0 x5_1).f0)) ∧ w'.cell? ⟨(ad106.add ((x5_1).toNat * 5)).block, (ad106.add ((x5_1).toNat * 5)).off + 1, none⟩ = some (.string ((rd_T28 l0 x5_1).f1)) ∧ w'.cell? ⟨(ad106.add ((x5_1).toNat * 5)).block, (ad106.add ((x5_1).toNat * 5)).off + 2, none⟩ = some (.string ((rd_T28 l0 x5_1).f2)) ∧ w'.cell? ⟨(ad106.add ((x5_1).toNat * 5)).block, (ad106.add ((x5_1).toNat * 5)).off + 3, none⟩ = some (.slice A106_3 ((rd_T28 l0 x5_1).f3).length c106_3) ∧ w'.cell? ⟨(ad106.add ((x5_1).toNat * 5)).block, (ad106.add ((x5_1).toNat * 5)).off + 4, none⟩ = some (.bool ((rd_T28 l0 x5_1).f4)) ∧ w'.cell? (ad107.add ((x5_1).toNat * 5)) = some (.int .i64 ((rd_T28 l1 x5_1).f0)) ∧ w'.cell? ⟨(ad107.add ((x5_1).toNat * 5)).block, (ad107.add ((x5_1).toNat * 5)).off + 1, none⟩ = some (.string ((rd_T28 l1 x5_1).f1)) ∧ w'.cell? ⟨(ad107.add ((x5_1).toNat * 5)).block, (ad107.add ((x5_1).toNat * 5)).off + 2, none⟩ = some (.string ((rd_T28 l1 x5_1).f2)) ∧ w'.cell? ⟨(ad107.add ((x5_1).toNat * 5)).block, (ad107.add ((x5_1).toNat * 5)).off + 3, none⟩ = some (.slice A107_3 ((rd_T28 l1 x5_1).f3).length c107_3) ∧ w'.cell? ⟨(ad107.add ((x5_1).toNat * 5)).block, (ad107.add ((x5_1).toNat * 5)).off + 4, none⟩ = some (.bool ((rd_T28 l1 x5_1).f4))) (ds := []) #[false, false, false, false, false, false, false, false, false, false] (by kernel_rfl) rfl rfl ⟨((HB.out.cell (World.block_lt_of_cell? w _ hw106_0)).trans hw106_0), ((HB.out.cell (World.block_lt_of_cell? w _ hw106_1)).trans hw106_1), ((HB.out.cell (World.block_lt_of_cell? w _ hw106_2)).trans hw106_2), ((HB.out.cell (World.block_lt_of_cell? w _ hw106_3)).trans hw106_3), ((HB.out.cell (World.block_lt_of_cell? w _ hw106_4)).trans hw106_4), ((HB.out.cell (World.block_lt_of_cell? w _ hw107_0)).trans hw107_0), ((HB.out.cell (World.block_lt_of_cell? w _ hw107_1)).trans hw107_1), ((HB.out.cell (World.block_lt_of_cell? w _ hw107_2)).trans hw107_2), ((HB.out.cell (World.block_lt_of_cell? w _ hw107_3)).trans hw107_3), ((HB.out.cell (World.block_lt_of_cell? w _ hw107_4)).trans hw107_4)⟩ (fun hHeld => ?_); refine with_tabW flailref09_All.tab6 flailref09_All.bits6 (fun HT_ HW_ => ?_)
                generalize wr.drew = w11 at HB HR106_3 HR107_3 hx106_0 hx106_1 hx106_2 hx106_3 hx106_4 hx107_0 hx107_1 hx107_2 hx107_3 hx107_4 hHeld ⊢
                refine pure_ (i := 0) (N := some 17) (v := ?_) (a' := ?_) #[true, false, false, false, false, false, false, false, false, false] rfl rfl (any_of HT_.out (by kernel_rfl)) (fun _ _ _ h => h) (Or.inl ⟨by rfl, ?_⟩) ?_ ?_
                rotate_left
                · intro w'
                  go_simp
                  with_reducible rfl
                rotate_left
                · simp only [Act.put, List.setIfInBounds_toArray, List.set_cons_zero, List.set_cons_succ, i64_w, i32_w]
                  rfl
                refine pure_ (i := 1) (N := some 18) (v := ?_) (a' := ?_) #[true, true, false, false, false, false, false, false, false, false] rfl rfl (any_of HT_.out (by kernel_rfl)) (fun _ _ _ h => h) (Or.inl ⟨by rfl, ?_⟩) ?_ ?_
                rotate_left
                · intro w'
                  go_simp
                  with_reducible rfl
                rotate_left
                · simp only [Act.put, List.setIfInBounds_toArray, List.set_cons_zero, List.set_cons_succ, i64_w, i32_w]
                  rfl
                refine pure_ (i := 2) (N := some 19) (v := ?_) (a' := ?_) #[true, true, true, false, false, false, false, false, false, false] rfl rfl (any_of HT_.out (by kernel_rfl)) (fun _ _ _ h => h) (Or.inl ⟨by rfl, ?_⟩) ?_ ?_
                rotate_left
                · intro w'
                  go_simp
                  with_reducible rfl
                rotate_left
                · simp only [Act.put, List.setIfInBounds_toArray, List.set_cons_zero, List.set_cons_succ, i64_w, i32_w]
                  rfl
                refine pure_ (i := 4) (N := some 21) (v := ?_) (a' := ?_) #[true, true, true, false, true, false, false, false, false, false] rfl rfl (any_of HT_.out (by kernel_rfl)) (fun _ _ _ h => h) (Or.inl ⟨by rfl, ?_⟩) ?_ ?_
                rotate_left
                · intro w'
                  go_simp
                  with_reducible rfl
                rotate_left
                · simp only [Act.put, List.setIfInBounds_toArray, List.set_cons_zero, List.set_cons_succ, i64_w, i32_w]
                  rfl
                refine pure_ (i := 5) (N := some 22) (v := ?_) (a' := ?_) #[true, true, true, false, true, true, false, false, false, false] rfl rfl (any_of HT_.out (by kernel_rfl)) (fun _ _ _ h => h) (Or.inl ⟨by rfl, ?_⟩) ?_ ?_
                rotate_left
                · intro w'
                  go_simp
                  with_reducible rfl
                rotate_left
                · simp only [Act.put, List.setIfInBounds_toArray, List.set_cons_zero, List.set_cons_succ, i64_w, i32_w]
                  rfl
                refine pure_ (i := 6) (N := some 23) (v := ?_) (a' := ?_) #[true, true, true, false, true, true, true, false, false, false] rfl rfl (any_of HT_.out (by kernel_rfl)) (fun _ _ _ h => h) (Or.inl ⟨by rfl, ?_⟩) ?_ ?_
                rotate_left
                · intro w'
                  go_simp
                  with_reducible rfl
                rotate_left
                · simp only [Act.put, List.setIfInBounds_toArray, List.set_cons_zero, List.set_cons_succ, i64_w, i32_w]
                  rfl
                refine take_ (i := 3) (N := some 20) (v := ?_) (a' := ?_) #[true, true, true, true, true, true, true, false, false, false] rfl rfl (take_ofW HT_.out HW_.out (by kernel_rfl)) (fun _ _ _ h => h) (Or.inl ⟨by rfl, ?_⟩) hHeld ?_ ?_
                rotate_left
                · rintro w' ⟨s0, s1, s2, s3, s4, s5, s6, s7, s8, s9⟩
                  go_simp
                  with_reducible rfl
                rotate_left
                · simp only [Act.put, List.setIfInBounds_toArray, List.set_cons_zero, List.set_cons_succ, i64_w, i32_w]
                  rfl
                refine take_ (i := 7) (N := some 24) (v := ?_) (a' := ?_) #[true, true, true, true, true, true, true, true, false, false] rfl rfl (take_ofW HT_.out HW_.out (by kernel_rfl)) (fun _ _ _ h => h) (Or.inl ⟨by rfl, ?_⟩) hHeld ?_ ?_
                rotate_left
                · rintro w' ⟨s0, s1, s2, s3, s4, s5, s6, s7, s8, s9⟩
                  go_simp
                  with_reducible rfl
                rotate_left
                · simp only [Act.put, List.setIfInBounds_toArray, List.set_cons_zero, List.set_cons_succ, i64_w, i32_w]
                  rfl
                refine one_ (i := 8) (N := some 25) #[true, true, true, true, true, true, true, true, true, false] rfl rfl (one_of HT_.out (by kernel_rfl)) (by decide) (fun K hK => ?_)
                refine goes_ Tryz.func36 (by kernel_rfl) rfl #[.agg #[.int .i64 ((rd_T28 l0 x5_1).f0), .string ((rd_T28 l0 x5_1).f1), .string ((rd_T28 l0 x5_1).f2), .slice A106_3 ((rd_T28 l0 x5_1).f3).length c106_3, .bool ((rd_T28 l0 x5_1).f4)], .agg #[.int .i64 ((rd_T28 l1 x5_1).f0), .string ((rd_T28 l1 x5_1).f1), .string ((rd_T28 l1 x5_1).f2), .slice A107_3 ((rd_T28 l1 x5_1).f3).length c107_3, .bool ((rd_T28 l1 x5_1).f4)]] (by rfl) rfl rfl (by (try simp only [List.map_toArray, List.map_cons, List.map_nil]); first | done | rfl | (simp only [List.length_drop, List.length_take]; rfl)) ?_
                with_reducible refine (flailref09_Same.calls k1 ((rd_T28 l0 x5_1).f0) ((rd_T28 l0 x5_1).f1) ((rd_T28 l0 x5_1).f2) _ _ ((rd_T28 l0 x5_1).f3) ((rd_T28 l0 x5_1).f4) ((rd_T28 l1 x5_1).f0) ((rd_T28 l1 x5_1).f1) ((rd_T28 l1 x5_1).f2) _ _ ((rd_T28 l1 x5_1).f3) ((rd_T28 l1 x5_1).f4) false _ ?side1 ?side2 ?side3 ?side4 A7.out).mono ?_
                (case side1 => repeat (first | exact (Kd.C_below HR106_3.out HB.out) | (with_reducible refine Kd.C_alloc ?_ _) | (with_reducible refine Kd.C_drewN ?_ _) | (with_reducible refine Kd.C_drew ?_)))
                (case side2 => exact HC106_3.out)
                (case side3 => repeat (first | exact (Kd.C_below HR107_3.out HB.out) | (with_reducible refine Kd.C_alloc ?_ _) | (with_reducible refine Kd.C_drewN ?_ _) | (with_reducible refine Kd.C_drew ?_)))
                (case side4 => exact HC107_3.out)
                rintro e w12 ⟨rfl, hb⟩
                refine ⟨_, rfl, ?_⟩
                have n0_ := Aside0.mk (below_step (by repeat (first | (with_reducible first | exact HB.out | apply below_alloc | apply pw_below_drewN | apply below_drew1) | exact HB.out)) hb)
                clear HB
                have HB := n0_
                clear n0_
                (try clear hb)
                (try clear hb2)
                (try clear hk)
                (try clear hi)
                refine hK.out _ _ ⟨((HB.out.cell (World.block_lt_of_cell? w _ hw106_0)).trans hw106_0), ((HB.out.cell (World.block_lt_of_cell? w _ hw106_1)).trans hw106_1), ((HB.out.cell (World.block_lt_of_cell? w _ hw106_2)).trans hw106_2), ((HB.out.cell (World.block_lt_of_cell? w _ hw106_3)).trans hw106_3), ((HB.out.cell (World.block_lt_of_cell? w _ hw106_4)).trans hw106_4), ((HB.out.cell (World.block_lt_of_cell? w _ hw107_0)).trans hw107_0), ((HB.out.cell (World.block_lt_of_cell? w _ hw107_1)).trans hw107_1), ((HB.out.cell (World.block_lt_of_cell? w _ hw107_2)).trans hw107_2), ((HB.out.cell (World.block_lt_of_cell? w _ hw107_3)).trans hw107_3), ((HB.out.cell (World.block_lt_of_cell? w _ hw107_4)).trans hw107_4)⟩ (fun hHeld => ?_)
                clear hK K
                refine norm_ (a' := ?_) ?_ ?_
                rotate_left
                · show Act.put _ (some 25) _ = _
                  simp only [Act.put, List.setIfInBounds_toArray, List.set_cons_zero, List.set_cons_succ, i64_w, i32_w]
                  rfl
                refine pure_ (i := 9) (N := some 26) (v := ?_) (a' := ?_) #[true, true, true, true, true, true, true, true, true, true] rfl rfl (any_of HT_.out (by kernel_rfl)) (fun _ _ _ h => h) (Or.inl ⟨by rfl, ?_⟩) ?_ ?_
                rotate_left
                · intro w'
                  go_simp
                  with_reducible rfl
                rotate_left
                · simp only [Act.put, List.setIfInBounds_toArray, List.set_cons_zero, List.set_cons_succ, i64_w, i32_w]
                  rfl
                refine done_ (done_of HT_.out (by kernel_rfl)) ?_
                try go_wp2
                go_ret
                exact ⟨by first | rfl | (simp [errW_none, errW_some] <;> rfl) | (simp [*, errW_none, errW_some] <;> rfl), by repeat (first | (with_reducible first | exact HB.out | apply below_alloc | apply pw_below_drewN | apply below_drew1) | exact HB.out)⟩
            · rw [if_neg c6] at H
              exact absurd H (by simp)
          · rw [if_neg c5] at H
            exact absurd H (by simp)
        · rw [if_neg c4] at H
          have c4b0 : decide (x5_1 < (l0.length : Int)) = false := decide_eq_false c4
          clear c4
          obtain rfl := Option.some.inj H
          go_wp2
          go_ret
          exact ⟨by first | rfl | (simp [errW_none, errW_some] <;> rfl) | (simp [*, errW_none, errW_some] <;> rfl), by repeat (first | (with_reducible first | exact HB.out | apply below_alloc | apply pw_below_drewN | apply below_drew1) | exact HB.out)⟩
  · rw [if_neg c3] at H
    have c3b0 : ((l0.length : Int) == (l1.length : Int)) = false := beq_eq_false_iff_ne.mpr c3
    have c3b1 : ((l0.length : Int) != (l1.length : Int)) = true := bne_iff_ne.mpr c3
    have c3b2 : (l0.length == l1.length) = false := by first | simpa using c3 | (simp at c3 ⊢; omega)
    obtain rfl := Option.some.inj H
    go_enter Tryz.func14, Tryz.ntmps14
    go_wp2
    go_ret
    exact ⟨by first | rfl | (simp [errW_none, errW_some] <;> rfl) | (simp [*, errW_none, errW_some] <;> rfl), by repeat (first | (with_reducible first | exact HB.out | apply below_alloc | apply pw_below_drewN | apply below_drew1) | exact HB.out)⟩
end Go.Proofs.YtbdcghbafopjjaaGreatDoor.Sl
end

section
namespace Go.Proofs.YtbdcghbafopjjaaGreatDoor.Hand
open Go Go.RowKit Go.Proofs.YtbdcghbafopjjaaGreatDoor.Pl Go.Proofs.YtbdcghbafopjjaaGreatDoor.Pb Go.Proofs.YtbdcghbafopjjaaGreatDoor.Pure
def atB (t : Tk) : Nat := (tkC t).2.2.2.1.length
theorem addA_len (l : List AttrT) (n v : List UInt8) : (addA l n v).length ≤ l.length + 1 := by
  unfold addA
  split
  · omega
  · rw [List.length_append]; exact Nat.le_refl _
theorem attrF_len (f : Nat) : ∀ l s l' b r, attrF f l s = some (l', b, r) → l'.length ≤ l.length + s.length := by
  induction f with
  | zero => intro l s l' b r h; cases h
  | succ f ih =>
    intro l s l' b r h
    have h1 := dw_le isSp s
    change (spL s).length ≤ _ at h1
    simp only [attrF] at h
    split at h
    · cases h
    · rename_i c r0 he
      rw [he, List.length_cons] at h1
      split at h
      · cases h; omega
      · split at h
        · split at h
          · have := ih _ _ _ _ _ h; simp at this; omega
          · rename_i d r' _
            simp only [List.length_cons] at h1
            split at h
            · cases h; omega
            · have := ih _ _ _ _ _ h; simp only [List.length_cons] at this; omega
        · have h2 := dw_le nmC r0
          split at h
          · cases h
          · rename_i v r' hv
            have h3 := valA_le hv
            have h4 := ih _ _ _ _ _ h
            have h5 := addA_len l (c :: r0.takeWhile nmC) v
            omega
theorem tagL_at (l : List UInt8) : ∀ t ∈ (tagL l).1, atB t ≤ l.length := by
  unfold tagL
  split
  · intro t h; cases h
  · rename_i al self r he
    intro t h
    simp only [Option.mem_def, Option.some.injEq] at h
    subst h
    have h1 := attrF_len _ _ _ _ _ _ he
    have h2 := dw_le stC (l.drop (tagN l))
    rw [List.length_drop] at h2
    simp only [List.length_nil] at h1
    split
    · exact Nat.zero_le _
    · show al.length ≤ _; omega
theorem tagR_at (l : List UInt8) : ∀ t ∈ (tagR l).1, atB t ≤ l.length := by
  unfold tagR
  split
  · intro t h; cases h
  · exact tagL_at l
theorem tokL_at (l : List UInt8) : ∀ t ∈ (tokL l).1, atB t ≤ l.length := by
  unfold tokL
  split
  · exact tagL_at l
  · split
    · intro t h; simp only [Option.mem_def, Option.some.injEq] at h; subst h; exact Nat.zero_le _
    · split
      · intro t h; simp only [Option.mem_def, Option.some.injEq] at h; subst h; exact Nat.zero_le _
      · split
        · intro t h; cases h
        · split
          · intro t h; cases h
          · intro t h; simp only [Option.mem_def, Option.some.injEq] at h; subst h; exact Nat.zero_le _
theorem txtT_at (u : List UInt8) (n : Nat) : ∀ t ∈ txtT u, atB t ≤ n := by
  unfold txtT
  split
  · intro t h; cases h
  · intro t h; rw [List.mem_singleton.1 h]; exact Nat.zero_le _
theorem rest_at (st : Nat) (name l : List UInt8) : ∀ t ∈ (restL st name l).1, atB t ≤ l.length := by
  unfold restL
  split
  · intro t h; cases h
  · split
    · exact txtT_at _ _
    · intro t h
      rcases List.mem_append.1 h with h | h
      · exact txtT_at _ _ t h
      · have := tagR_at (l.drop (endN st name l)) t (by simpa using h)
        rw [List.length_drop] at this
        omega
theorem tks_at : ∀ n (l : List UInt8), l.length ≤ n → ∀ t ∈ tksL l, atB t ≤ n := by
  intro n
  induction n with
  | zero =>
    intro l h
    obtain rfl := List.eq_nil_of_length_eq_zero (Nat.le_zero.1 h)
    intro t h; cases h
  | succ n ih =>
    intro l h
    by_cases hl : l = []
    · subst hl; intro t h; cases h
    · have h1 := tokL_at l
      have h3 := tokL_lt hl
      rw [tksL_eq hl]
      intro t ht
      rcases List.mem_append.1 ht with ht | ht
      · have := h1 t (by simpa using ht); omega
      · have := ih _ (by omega) t ht; omega
theorem join_at {l : List Tk} {n : Nat} (h : ∀ t ∈ l, atB t ≤ n) : ∀ t ∈ joinL l, atB t ≤ n := by
  induction l with
  | nil => intro t ht; cases ht
  | cons u r ih =>
    have ihr := ih (fun t ht => h t (List.mem_cons_of_mem _ ht))
    cases hx : isTx u with
    | false =>
      rw [joinL_no r hx]
      intro t ht
      rcases List.mem_cons.1 ht with rfl | ht
      · exact h _ List.mem_cons_self
      · exact ihr t ht
    | true =>
      obtain ⟨s, rfl⟩ : ∃ s, u = .text s := by cases u <;> first | exact ⟨_, rfl⟩ | cases hx
      rw [joinL]
      split
      · rename_i v r2 he
        intro t ht
        rcases List.mem_cons.1 ht with rfl | ht
        · exact Nat.zero_le _
        · exact ihr t (by rw [he]; exact List.mem_cons_of_mem _ ht)
      · intro t ht
        rcases List.mem_append.1 ht with ht | ht
        · exact txtT_at _ _ t ht
        · exact ihr t ht
theorem tokA_at (st : Nat) (name l : List UInt8) : ∀ t ∈ tokA st name l, atB t ≤ l.length := by
  unfold tokA
  split
  · intro t h; cases h
  · refine join_at (fun t ht => ?_)
    rcases List.mem_append.1 ht with ht | ht
    · exact rest_at st name l t ht
    · exact tks_at _ _ (restL_le st name l) t ht
end Go.Proofs.YtbdcghbafopjjaaGreatDoor.Hand
end

section
namespace Go.Proofs.YtbdcghbafopjjaaGreatDoor.Pure
open Go Go.RowKit Go.Proofs.YtbdcghbafopjjaaGreatDoor.K0 Go.Proofs.YtbdcghbafopjjaaGreatDoor.Hand Go.Proofs.YtbdcghbafopjjaaGreatDoor.Sa Go.Proofs.YtbdcghbafopjjaaGreatDoor.Sl Go.Proofs.YtbdcghbafopjjaaGreatDoorW.PrintWords Go.Proofs.YtbdcghbafopjjaaGreatDoorW.PrintMore Go.Proofs.YtbdcghbafopjjaaGreatDoor.Pl Go.Proofs.YtbdcghbafopjjaaGreatDoor.Pb
theorem same8 (l : List AtS) (hl : l.length ≤ 1000000) : ∀ d i : Nat, l.length - i = d → i ≤ l.length → Ev (fun k => flailref08_Same.l0 k l l (i : Int)) true := by
  intro d
  induction d with
  | zero =>
    intro i hd hi
    exact Ev.step (f := fun _ => some true) (fun k => by rw [flailref08_Same.l0, if_neg (by omega)]) (Ev.now _)
  | succ d ih =>
    intro i hd hi
    have w : wrap64 ((i : Int) + 1) = ((i + 1 : Nat) : Int) := by unfold wrap64; omega
    refine Ev.step (fun k => ?_) (ih (i + 1) (by omega) (by omega))
    rw [flailref08_Same.l0, if_pos (by omega), if_pos (by omega), if_pos (by omega), if_neg (by simp), w]
theorem same8_f (l : List AtS) (hl : l.length ≤ 1000000) : Ev (fun k => flailref08_Same.f k l l) true := by
  unfold flailref08_Same.f
  simp only [if_true]
  exact same8 l hl l.length 0 (by omega) (Nat.zero_le _)
theorem same9_f (a : TkS) (hl : a.f3.length ≤ 1000000) : Ev (fun k => flailref09_Same.f k a.f0 a.f1 a.f2 a.f3 a.f4 a.f0 a.f1 a.f2 a.f3 a.f4) true := by
  unfold flailref09_Same.f
  simp only [if_true, BEq.rfl]
  exact Ev.bind (same8_f a.f3 hl) (Ev.now _)
theorem all_l0 (l : List TkS) (hl : l.length ≤ 1000000) (ha : ∀ x ∈ l, x.f3.length ≤ 1000000) : ∀ d i : Nat, l.length - i = d → i ≤ l.length → Ev (fun k => flailref09_All.l0 k l l (i : Int)) true := by
  intro d
  induction d with
  | zero =>
    intro i hd hi
    exact Ev.step (f := fun _ => some true) (fun k => by rw [flailref09_All.l0, if_neg (by omega)]) (Ev.now _)
  | succ d ih =>
    intro i hd hi
    have hlt : i < l.length := by omega
    have w : wrap64 ((i : Int) + 1) = ((i + 1 : Nat) : Int) := by unfold wrap64; omega
    have hr : rd_T28 l (i : Int) = l[i] := by unfold rd_T28; rw [Int.toNat_natCast, List.getD_eq_getElem?_getD, List.getElem?_eq_getElem hlt]; rfl
    refine Ev.step (fun k => ?_) (Ev.bind (f := fun k t => if t = true then flailref09_All.l0 k l l ((i + 1 : Nat) : Int) else some false) (same9_f l[i] (ha _ (List.getElem_mem _))) (by simp only [if_true]; exact ih (i + 1) (by omega) (by omega)))
    rw [flailref09_All.l0, if_pos (by omega), if_pos (by omega), if_pos (by omega), hr, w]
theorem all_f (l : List TkS) (hl : l.length ≤ 1000000) (ha : ∀ x ∈ l, x.f3.length ≤ 1000000) : Ev (fun k => flailref09_All.f k l l) true := by
  unfold flailref09_All.f
  simp only [if_true]
  exact all_l0 l hl ha l.length 0 (by omega) (Nat.zero_le _)
end Go.Proofs.YtbdcghbafopjjaaGreatDoor.Pure
namespace Go.Proofs.YtbdcghbafopjjaaGreatDoor.Hand
open Go Go.RowKit Go.Proofs.YtbdcghbafopjjaaGreatDoor.K0 Go.Proofs.YtbdcghbafopjjaaGreatDoor.Pl Go.Proofs.YtbdcghbafopjjaaGreatDoor.Pb Go.Proofs.YtbdcghbafopjjaaGreatDoor.Pure Go.Proofs.YtbdcghbafopjjaaGreatDoor.Sl Go.Proofs.YtbdcghbafopjjaaGreatDoorW.PrintWords
theorem all_c (l : List Tk) (hl : l.length ≤ 1000000) (ha : ∀ t ∈ l, atB t ≤ 1000000) (W : World) (v1 v2 : Value) (b1 b2 : Nat) (o1 o2 : Nat → Prop) (h1 : Kd.V k28 28 W b1 o1 v1 (l.map ofK)) (h2 : Kd.V k28 28 W b2 o2 v2 (l.map ofK)) :
    Calls Tryz.prog 14 #[v1, v2] W fun e w' => e = .returned (.bool true) ∧ Below W.heap.size W w' := by
  obtain ⟨A, c, rfl⟩ := Kd.V_slice h1
  obtain ⟨A', c', rfl⟩ := Kd.V_slice h2
  obtain ⟨_, x1, y1⟩ := Kd.V_reads' h1
  obtain ⟨_, x2, y2⟩ := Kd.V_reads' h2
  obtain ⟨k, hk⟩ := (all_f (l.map ofK) (by rw [List.length_map]; exact hl) (fun x hx => by
    obtain ⟨t, ht, rfl⟩ := List.mem_map.1 hx
    have : (ofK t).f3.length = atB t := List.length_map ..
    rw [this]; exact ha t ht)).rounds
  exact flailref09_All.calls k A c (l.map ofK) A' c' (l.map ofK) true W y1 x1 y2 x2 hk
end Go.Proofs.YtbdcghbafopjjaaGreatDoor.Hand
end

section
namespace Go.Proofs.YtbdcghbafopjjaaGreatDoor.Hand
open Go Go.RowKit Go.Proofs.YtbdcghbafopjjaaGreatDoor.Pl Go.Proofs.YtbdcghbafopjjaaGreatDoor.Pb
def rowAt (T : List UInt8) (p : Nat) (key rest : List UInt8) : Bool := (T[p]? == some 10) && (lnT T (p + 1) == key ++ 32 :: rest)
def wordAmp : List UInt8 := [97, 109, 112]
def wordLt : List UInt8 := [108, 116]
def wordGt : List UInt8 := [103, 116]
def wordQuot : List UInt8 := [113, 117, 111, 116]
def wordNbsp : List UInt8 := [110, 98, 115, 112]
set_option maxRecDepth 1000000 in
theorem rows_are : (rowAt namesL 9820 (wordAmp ++ [59]) [50, 54] && (rowAt namesL 9813 wordAmp [50, 54] && (rowAt namesL 19023 (wordLt ++ [59]) [51, 67] && (rowAt namesL 15791 (wordGt ++ [59]) [51, 69] && (rowAt namesL 23656 (wordQuot ++ [59]) [50, 50] && rowAt namesL 20038 (wordNbsp ++ [59]) [65, 48]))))) = true := by kernel_rfl
theorem row_fnd {p : Nat} {key rest : List UInt8} (h : rowAt namesL p key rest = true) (hk : ∀ c ∈ key, c ≠ 10 ∧ c ≠ 32) : Fnd namesL key (some rest) := by
  unfold rowAt at h
  rw [Bool.and_eq_true, beq_iff_eq, beq_iff_eq] at h
  obtain ⟨h1, h2⟩ := h
  refine .inl ⟨p + 1, .inr ⟨p, rfl, h1⟩, ?_, ?_⟩
  · unfold kyT; rw [h2, ky_row hk]
  · rw [h2]; unfold rsL; rw [ky_row hk, List.drop_append, List.drop_eq_nil_of_le (by omega), List.nil_append, show key.length + 1 - key.length = 1 by omega]; rfl
theorem fnd_amp : Fnd namesL (wordAmp ++ [59]) (some [50, 54]) := row_fnd (Bool.and_eq_true_iff.1 rows_are).1 (by decide)
theorem fnd_amp0 : Fnd namesL wordAmp (some [50, 54]) := row_fnd (Bool.and_eq_true_iff.1 (Bool.and_eq_true_iff.1 rows_are).2).1 (by decide)
theorem fnd_key {key rest : List UInt8} (h : Fnd namesL key (some rest)) : isKey namesL key := (fnd_rest h).2.2
theorem nameT_of {key rest : List UInt8} (h : Fnd namesL key (some rest)) : nameT key = (textB (num1 rest) (num2 rest)).data.toList := by unfold nameT; rw [rowN_eq h]
theorem nameT_amp0 : nameT wordAmp = [38] := by rw [nameT_of fnd_amp0]; decide +kernel
theorem lng_stop {k r : List UInt8} {c : UInt8} (hk : isKey namesL k) (hc : kyC c = false ∧ c ≠ 59 ∨ k.getLast? = some 59) : lngN (k ++ c :: r) = k.length := by
  have hf := key_facts hk
  refine lngN_eq ⟨?_, .inr (by rw [List.take_left]; exact hk), fun m h1 h2 hm => ?_⟩
  · have := hf.le; simp; omega
  · have hg := key_facts hm
    have h2' : m ≤ (k ++ c :: r).length := by omega
    obtain ⟨d, rfl⟩ : ∃ d, m = k.length + 1 + d := ⟨m - (k.length + 1), by omega⟩
    have e : (k ++ c :: r).take (k.length + 1 + d) = k ++ c :: r.take d := by
      rw [List.take_append, List.take_of_length_le (by omega), show k.length + 1 + d - k.length = d + 1 by omega, List.take_succ_cons]
    rw [e] at hg
    rcases hc with ⟨h3, h4⟩ | h3
    ·
      cases hd : r.take d with
      | nil =>
        rw [hd] at hg
        obtain ⟨x, hx, hx2⟩ := hg.last
        simp at hx
        subst hx
        rcases hx2 with h | h
        · rw [h3] at h; cases h
        · exact h4 h
      | cons y t =>
        rw [hd] at hg
        have hmem : c ∈ (k ++ c :: y :: t).dropLast := by
          rw [List.dropLast_append_of_ne_nil (by simp)]
          simp
        have := hg.inner c hmem
        rw [h3] at this; cases this
    · have hmem : (59 : UInt8) ∈ (k ++ c :: r.take d).dropLast := by
        rw [List.dropLast_append_of_ne_nil (by simp)]
        exact List.mem_append_left _ (List.mem_of_getLast? h3)
      have := hg.inner 59 hmem
      exact absurd this (by decide)
theorem num_letter {k r : List UInt8} (hk : isKey namesL k) : numL (k ++ r) = none := by
  have hf := key_facts hk
  cases k with
  | nil => exact absurd rfl hf.pos
  | cons c k =>
    have hh := hf.head
    have h35 : c ≠ 35 := by rintro rfl; exact absurd hh (by simp [hdC])
    unfold numL
    rw [if_neg]
    simp [begR, h35]
    have : ∀ n : Fin 256, lowB (UInt8.ofNat n.val) = 35 → UInt8.ofNat n.val = 35 := by decide +kernel
    have h := this ⟨c.toNat, c.toNat_lt⟩
    simp only [UInt8.ofNat_toNat] at h
    exact fun e => h35 (h e)
theorem refN_semi {attr : Bool} {w : List UInt8} (r : List UInt8) (hk : isKey namesL (w ++ [59])) : refN attr (38 :: (w ++ 59 :: r)) = (nameT (w ++ [59]), w.length + 2) := by
  have hl : lngN (w ++ 59 :: r) = w.length + 1 := by
    cases r with
    | nil =>
      refine lngN_eq ⟨?_, .inr ?_, fun m h1 h2 _ => ?_⟩
      · have := (key_facts hk).le; simp at this ⊢; omega
      · rw [List.take_of_length_le (by simp)]; exact hk
      · simp at h2; omega
    | cons c r =>
      have := lng_stop (c := c) (r := r) hk (.inr (by simp))
      rw [List.append_assoc] at this
      simpa using this
  have hn : numL (w ++ 59 :: r) = none := by
    have := num_letter (r := r) hk
    rwa [List.append_assoc] at this
  have ht : (w ++ 59 :: r).take (w.length + 1) = w ++ [59] := by
    rw [List.take_append, List.take_of_length_le (by omega), show w.length + 1 - w.length = 1 by omega]; rfl
  unfold refN
  rw [List.drop_succ_cons, List.drop_zero, hn, hl, ht]
  simp only
  rw [if_neg, show 1 + (w.length + 1) = w.length + 2 by omega]
  rintro (e | e)
  · omega
  · unfold leftL at e
    rw [show Lib.hasSuffix (w ++ [59]) [59] = true by unfold Lib.hasSuffix; simp] at e
    simp at e
end Go.Proofs.YtbdcghbafopjjaaGreatDoor.Hand
end

section
namespace Go.Proofs.YtbdcghbafopjjaaGreatDoor.Hand
open Go Go.RowKit Go.Proofs.YtbdcghbafopjjaaGreatDoor.Pl Go.Proofs.YtbdcghbafopjjaaGreatDoor.Pb
theorem RefR.next {s : List UInt8} {n : Nat} {attr : Bool} {v : Value} (h : RefR s n attr v) (hb : begR (s.drop n) [38] = true) : ∃ t m, v = .tuple #[.string t, .int .i64 ((m : Nat) : Int)] ∧ n + 1 ≤ m ∧ m ≤ s.length := by
  have hn : n + 1 ≤ s.length := by have := begR_one hb; rw [List.length_drop] at this; omega
  cases h with
  | no h => rw [hb] at h; cases h
  | num h m k h2 =>
    have := (numL_le h2).2.1
    rw [List.length_drop] at this
    exact ⟨_, _, rfl, by omega, by omega⟩
  | left h h2 k h3 h4 =>
    have := h3.le
    rw [List.length_drop] at this
    exact ⟨_, _, rfl, by omega, by omega⟩
  | name h h2 k h3 h4 h5 rest h6 =>
    have := h3.le
    rw [List.length_drop] at this
    exact ⟨_, _, rfl, by omega, by omega⟩
inductive Whl (s : List UInt8) (attr : Bool) : Nat → Bool → Prop
  | stop (i : Nat) (h : ∀ k : Nat, (s.drop i)[k]? ≠ some 38) : Whl s attr i true
  | bad (i o m : Nat) (t : ByteArray) (h1 : (s.drop i)[o]? = some 38) (h2 : ∀ k, k < o → (s.drop i)[k]? ≠ some 38) (h3 : RefR s (i + o) attr (.tuple #[.string t, .int .i64 (m : Int)])) (h4 : s[m - 1]? ≠ some 59) : Whl s attr i false
  | go (i o m : Nat) (t : ByteArray) (b : Bool) (h1 : (s.drop i)[o]? = some 38) (h2 : ∀ k, k < o → (s.drop i)[k]? ≠ some 38) (h3 : RefR s (i + o) attr (.tuple #[.string t, .int .i64 (m : Int)])) (h4 : s[m - 1]? = some 59) (h5 : Whl s attr m b) : Whl s attr i b
theorem begR_amp {s : List UInt8} {i o : Nat} (h : (s.drop i)[o]? = some 38) : begR (s.drop (i + o)) [38] = true := by
  rw [List.getElem?_drop] at h
  obtain ⟨hl, he⟩ := List.getElem?_eq_some_iff.1 h
  rw [List.drop_eq_getElem_cons hl, he]
  simp [begR, show lowB 38 = 38 by decide]
set_option maxRecDepth 100000 in
set_option maxHeartbeats 8000000 in
theorem whole_c (s : List UInt8) (attr : Bool) (hs : s.length ≤ 100000) (w : World) (hGl : Glob w) (hGE : GlobE w) :
    Calls Tryz.prog 28 #[.string (B s), .bool attr] w fun e w' => (∃ b, Whl s attr 0 b ∧ e = .returned (.bool b)) ∧ Below w.heap.size w w' := by
  have HG := Lib.hid hGl
  have HE := Lib.hid hGE
  have RD := Lib.hid (fun n (hn : n ≤ s.length) W hG hE => read_c s n attr hs hn W hG hE)
  obtain ⟨a, ha⟩ : ∃ a, B s = a := ⟨_, rfl⟩
  have hsz : a.size = s.length := by rw [← ha]; simp
  have hx : ∀ i, (a.extract i a.size).data.toList = s.drop i := fun i => by rw [← ha, size_B, B_extract, List.take_length, B_data]
  have hb : ∀ i (h : i < a.size), s[i]? = some a[i] := fun i h => by
    subst ha
    rw [List.getElem?_eq_getElem (by simpa using h)]; rfl
  rw [ha] at RD ⊢
  have HX := Lib.hid hx
  have HBY := Lib.hid hb
  have HSZ := Lib.hid hsz
  have hza : a.size ≤ 100000 := by omega
  clear hs hGl hGE ha hsz hx hb
  go_enter Tryz.func28, Tryz.ntmps28
  go_wp2_with fail
  go_loopw [5] (fun v wx => ∃ i : Nat, v = .int .i64 (i : Int) ∧ i ≤ a.size ∧ Hid (Below w.heap.size w wx) ∧ Hid (∀ b, Whl s attr i b → Whl s attr 0 b)) (fun v _ => a.size - (intOf v).toNat)
  case atStart => exact ⟨0, rfl, Nat.zero_le _, Lib.hid (Below.refl _ _), Lib.hid (fun _ h => h)⟩
  case round =>
    obtain ⟨i, rfl, hi, HW, HR⟩ := hrel
    have I := fun W => Tryz.strings_IndexByte (a.extract i a.size) 38 W
    rw [HX.out i] at I
    rcases Int.lt_or_le (Lib.indexByte (s.drop i) 38) 0 with h | h
    · have h1 : Lib.indexByte (s.drop i) 38 = -1 := by have := Lib.indexByte_ge (s.drop i) 38; omega
      have I2 : Hid (∀ W, Calls Tryz.prog 30 #[.string (a.extract i a.size), .int .u8 38] W fun e w' => e = .returned (.int .i64 (-1)) ∧ w' = W) := Lib.hid (fun W => by rw [← h1]; exact I W)
      have HN := Lib.hid (HR.out true (Whl.stop i (fun k => Lib.indexByte_none h1 k)))
      clear I h h1
      go_wp2_with fail
      refine (I2.out _).mono ?_
      rintro e w1 ⟨rfl, rfl⟩
      go_wp2_with fail
      go_ret
      exact ⟨⟨true, HN.out, rfl⟩, HW.out⟩
    · obtain ⟨o, ho⟩ : ∃ o : Nat, Lib.indexByte (s.drop i) 38 = o := ⟨_, (Int.toNat_of_nonneg h).symm⟩
      have I2 : Hid (∀ W, Calls Tryz.prog 30 #[.string (a.extract i a.size), .int .u8 38] W fun e w' => e = .returned (.int .i64 (o : Int)) ∧ w' = W) := Lib.hid (fun W => by rw [← ho]; exact I W)
      obtain ⟨h1, h2⟩ := Lib.indexByte_some ho
      have hba := begR_amp h1
      have hio : i + o < a.size := by
        obtain ⟨hl, _⟩ := List.getElem?_eq_some_iff.1 h1
        rw [List.length_drop] at hl
        have := HSZ.out
        omega
      have H1 := Lib.hid h1
      have H2 := Lib.hid h2
      have RI := fun W hG hE => RD.out (i + o) (by have := HSZ.out; omega) W hG hE
      have HRI := Lib.hid RI
      have HBA := Lib.hid hba
      clear I h ho h1 h2 hba RI
      go_wp2_with fail
      refine (I2.out _).mono ?_
      rintro e w1 ⟨rfl, rfl⟩
      go_wp2_with fail
      refine (HRI.out _ (HG.out.step HW.out) (HE.out.step HW.out)).mono ?_
      rintro e w2 ⟨⟨v, hv, rfl⟩, hb⟩
      have HW2 := Lib.hid (HW.out.trans (hb.mono HW.out.size))
      obtain ⟨t, m, rfl, hm1, hm2⟩ := hv.next HBA.out
      have HV := Lib.hid hv
      have hmz : m ≤ a.size := by have := HSZ.out; omega
      have hm0 : m - 1 < a.size := by omega
      have hby := HBY.out (m - 1) hm0
      have hm3 : 0 < m := by omega
      have hmi : ((m : Int) - 1) = ((m - 1 : Nat) : Int) := by omega
      by_cases h59 : a[m - 1] = 59
      · have q1 : (((a[m - 1].toNat : Nat) : Int) != 59) = false := by rw [h59]; rfl
        have HN : Hid (∀ b, Whl s attr m b → Whl s attr 0 b) := Lib.hid (fun b h => HR.out b (Whl.go i o m t b H1.out H2.out HV.out (by rw [hby, h59]) h))
        clear hb hv hby h59 hm2
        go_wp2_with fail
        go_roundw
        case rel => exact ⟨m, rfl, hmz, HW2, HN⟩
        case measure => simp [intOf]; omega
      · have q1 : (((a[m - 1].toNat : Nat) : Int) != 59) = true := by
          rw [bne_iff_ne]
          intro e
          exact h59 (UInt8.toNat_inj.1 (show a[m - 1].toNat = 59 by omega))
        have HN := Lib.hid (HR.out false (Whl.bad i o m t H1.out H2.out HV.out (by rw [hby]; intro e; exact h59 (Option.some.inj e))))
        clear hb hv hby h59 hm2
        go_wp2_with fail
        go_ret
        exact ⟨⟨false, HN.out, rfl⟩, HW2.out⟩
end Go.Proofs.YtbdcghbafopjjaaGreatDoor.Hand
end

section
namespace Go.Proofs.YtbdcghbafopjjaaGreatDoor.Hand
open Go Go.RowKit Go.Proofs.YtbdcghbafopjjaaGreatDoor.Pl Go.Proofs.YtbdcghbafopjjaaGreatDoor.Pb
def hasB (s : List UInt8) (c : UInt8) : Bool := decide (c ∈ s)
theorem index_has (c : UInt8) : ∀ s : List UInt8, decide (0 ≤ Lib.indexByte s c) = hasB s c := by
  intro s
  unfold hasB
  rw [Bool.eq_iff_iff, decide_eq_true_eq, decide_eq_true_eq]
  constructor
  · intro h
    obtain ⟨o, ho⟩ : ∃ o : Nat, Lib.indexByte s c = o := ⟨_, (Int.toNat_of_nonneg h).symm⟩
    exact List.mem_of_getElem? (Lib.indexByte_some ho).1
  · intro h
    rcases Int.lt_or_le (Lib.indexByte s c) 0 with h' | h'
    · exfalso
      have h1 : Lib.indexByte s c = -1 := by have := Lib.indexByte_ge s c; omega
      obtain ⟨k, hk, he⟩ := List.getElem_of_mem h
      exact Lib.indexByte_none h1 k (by rw [List.getElem?_eq_getElem hk, he])
    · exact h'
def SafeR (s : List UInt8) (st : Int) (b : Bool) : Prop :=
  if hasB s 13 = true then b = false
  else if st = 0 ∨ st = 1 then ∃ x, Whl s false 0 x ∧ b = (x && !hasB s 60)
  else if st = 2 ∨ st = 3 then b = !hasB s 60
  else if st = 4 then b = true
  else if st = 6 then (hasB s 39 = true ∧ b = false) ∨ (hasB s 39 = false ∧ Whl s true 0 b)
  else if st = 5 then (hasB s 34 = true ∧ b = false) ∨ (hasB s 34 = false ∧ Whl s true 0 b)
  else b = false
def SafeP (s : List UInt8) (st : Int) (e : Ending) : Prop := ∃ b, SafeR s st b ∧ e = .returned (.bool b)
theorem norm_has (s : List UInt8) : (normL s == s) = !hasB s 13 := by
  unfold hasB
  by_cases h : 13 ∈ s
  · rw [decide_eq_true h, beq_eq_false_iff_ne.2]; rfl
    intro e
    have := normL_no13 s
    rw [e] at this
    exact this h
  · rw [decide_eq_false h, normL_of_no13 h]; simp
set_option maxRecDepth 100000 in
set_option maxHeartbeats 8000000 in
theorem safe_c (s : List UInt8) (st : Int) (hs : s.length ≤ 100000) (w : World) (hGl : Glob w) (hGE : GlobE w) :
    Calls Tryz.prog 11 #[.int .i64 st, .string (B s)] w fun e w' => SafeP s st e ∧ Below w.heap.size w w' := by
  have HG := Lib.hid hGl
  have HE := Lib.hid hGE
  have HWH := Lib.hid (fun attr W hG hE => whole_c s attr hs W hG hE)
  have HC := Lib.hid (fun (c : UInt8) W => (by have := Tryz.strings_Contains_one (B s) c W; rw [B_data, index_has] at this; exact this : Calls Tryz.prog 29 #[.string (B s), .string ⟨#[c]⟩] W fun e w' => e = .returned (.bool (hasB s c)) ∧ w' = W))
  have NM : ∀ W, Calls Tryz.prog 23 #[.string (B s)] W fun e w' => e = .returned (.string (B (normL s))) ∧ Below W.heap.size W w' := fun W => by
    have := norm_any (B s) W (by rw [size_B]; omega)
    rw [B_data] at this
    exact this
  have e1 : ((B (normL s)).toList == (B s).toList) = !hasB s 13 := by rw [toList_B, toList_B]; exact norm_has s
  have HN := Lib.hid NM
  obtain ⟨a, ha⟩ : ∃ a, B s = a := ⟨_, rfl⟩
  obtain ⟨nm, hnm⟩ : ∃ a, B (normL s) = a := ⟨_, rfl⟩
  rw [ha] at HWH HC HN e1 ⊢
  rw [hnm] at HN e1
  have e2 : (nm.toList != a.toList) = hasB s 13 := by rw [bne, e1]; simp
  obtain ⟨h13, hh13⟩ : ∃ b, hasB s 13 = b := ⟨_, rfl⟩
  obtain ⟨h60, hh60⟩ : ∃ b, hasB s 60 = b := ⟨_, rfl⟩
  obtain ⟨h39, hh39⟩ : ∃ b, hasB s 39 = b := ⟨_, rfl⟩
  obtain ⟨h34, hh34⟩ : ∃ b, hasB s 34 = b := ⟨_, rfl⟩
  have C60 : Hid (∀ W, Calls Tryz.prog 29 #[.string a, .string ⟨#[60]⟩] W fun e w' => e = .returned (.bool h60) ∧ w' = W) := Lib.hid (fun W => by rw [← hh60]; exact HC.out 60 W)
  have C39 : Hid (∀ W, Calls Tryz.prog 29 #[.string a, .string ⟨#[39]⟩] W fun e w' => e = .returned (.bool h39) ∧ w' = W) := Lib.hid (fun W => by rw [← hh39]; exact HC.out 39 W)
  have C34 : Hid (∀ W, Calls Tryz.prog 29 #[.string a, .string ⟨#[34]⟩] W fun e w' => e = .returned (.bool h34) ∧ w' = W) := Lib.hid (fun W => by rw [← hh34]; exact HC.out 34 W)
  rw [hh13] at e1 e2
  have K13 := Lib.hid hh13
  have K60 := Lib.hid hh60
  have K39 := Lib.hid hh39
  have K34 := Lib.hid hh34
  clear NM ha hnm hh13 hh60 hh39 hh34 hGl hGE hs HC
  cases h13 with
  | true =>
    go_enter Tryz.func11, Tryz.ntmps11
    go_wp2_with fail
    refine (HN.out _).mono ?_
    rintro e w1 ⟨rfl, hb⟩
    have HW := Lib.hid hb
    clear hb
    go_wp2_with fail
    go_ret
    exact ⟨⟨false, by unfold SafeR; rw [K13.out, if_pos rfl], rfl⟩, HW.out⟩
  | false =>
    rw [Bool.not_false] at e1
    by_cases s01 : st = 0 ∨ st = 1
    · rcases s01 with rfl | rfl
      · go_enter Tryz.func11, Tryz.ntmps11
        go_wp2_with fail
        refine (HN.out _).mono ?_
        rintro e w1 ⟨rfl, hb⟩
        have HW := Lib.hid hb
        clear hb
        go_wp2_with fail
        refine (HWH.out false _ (HG.out.step HW.out) (HE.out.step HW.out)).mono ?_
        rintro e w2 ⟨⟨x, hx, rfl⟩, hb⟩
        replace HW := Lib.hid (HW.out.trans (hb.mono HW.out.size))
        have HX := Lib.hid hx
        clear hb hx
        cases x with
        | false =>
          go_wp2_with fail
          go_ret
          exact ⟨⟨false, by unfold SafeR; rw [K13.out, if_neg (by decide), if_pos (by decide)]; exact ⟨false, HX.out, rfl⟩, rfl⟩, HW.out⟩
        | true =>
          go_wp2_with fail
          refine (C60.out _).mono ?_
          rintro e w3 ⟨rfl, rfl⟩
          go_wp2_with fail
          go_ret
          exact ⟨⟨_, by unfold SafeR; rw [K13.out, if_neg (by decide), if_pos (by decide)]; exact ⟨true, HX.out, by rw [K60.out]; rfl⟩, rfl⟩, HW.out⟩
      · go_enter Tryz.func11, Tryz.ntmps11
        go_wp2_with fail
        refine (HN.out _).mono ?_
        rintro e w1 ⟨rfl, hb⟩
        have HW := Lib.hid hb
        clear hb
        go_wp2_with fail
        refine (HWH.out false _ (HG.out.step HW.out) (HE.out.step HW.out)).mono ?_
        rintro e w2 ⟨⟨x, hx, rfl⟩, hb⟩
        replace HW := Lib.hid (HW.out.trans (hb.mono HW.out.size))
        have HX := Lib.hid hx
        clear hb hx
        cases x with
        | false =>
          go_wp2_with fail
          go_ret
          exact ⟨⟨false, by unfold SafeR; rw [K13.out, if_neg (by decide), if_pos (by decide)]; exact ⟨false, HX.out, rfl⟩, rfl⟩, HW.out⟩
        | true =>
          go_wp2_with fail
          refine (C60.out _).mono ?_
          rintro e w3 ⟨rfl, rfl⟩
          go_wp2_with fail
          go_ret
          exact ⟨⟨_, by unfold SafeR; rw [K13.out, if_neg (by decide), if_pos (by decide)]; exact ⟨true, HX.out, by rw [K60.out]; rfl⟩, rfl⟩, HW.out⟩
    by_cases s23 : st = 2 ∨ st = 3
    · rcases s23 with rfl | rfl
      · go_enter Tryz.func11, Tryz.ntmps11
        go_wp2_with fail
        refine (HN.out _).mono ?_
        rintro e w1 ⟨rfl, hb⟩
        have HW := Lib.hid hb
        clear hb
        go_wp2_with fail
        refine (C60.out _).mono ?_
        rintro e w3 ⟨rfl, rfl⟩
        go_wp2_with fail
        go_ret
        exact ⟨⟨_, by unfold SafeR; rw [K13.out, if_neg (by decide), if_neg (by decide), if_pos (by decide), K60.out], rfl⟩, HW.out⟩
      · go_enter Tryz.func11, Tryz.ntmps11
        go_wp2_with fail
        refine (HN.out _).mono ?_
        rintro e w1 ⟨rfl, hb⟩
        have HW := Lib.hid hb
        clear hb
        go_wp2_with fail
        refine (C60.out _).mono ?_
        rintro e w3 ⟨rfl, rfl⟩
        go_wp2_with fail
        go_ret
        exact ⟨⟨_, by unfold SafeR; rw [K13.out, if_neg (by decide), if_neg (by decide), if_pos (by decide), K60.out], rfl⟩, HW.out⟩
    by_cases s4 : st = 4
    · subst s4
      go_enter Tryz.func11, Tryz.ntmps11
      go_wp2_with fail
      refine (HN.out _).mono ?_
      rintro e w1 ⟨rfl, hb⟩
      have HW := Lib.hid hb
      clear hb
      go_wp2_with fail
      go_ret
      exact ⟨⟨true, by unfold SafeR; rw [K13.out, if_neg (by decide), if_neg (by decide), if_neg (by decide), if_pos rfl], rfl⟩, HW.out⟩
    by_cases s6 : st = 6
    · subst s6
      go_enter Tryz.func11, Tryz.ntmps11
      go_wp2_with fail
      refine (HN.out _).mono ?_
      rintro e w1 ⟨rfl, hb⟩
      have HW := Lib.hid hb
      clear hb
      go_wp2_with fail
      refine (C39.out _).mono ?_
      rintro e w3 ⟨rfl, rfl⟩
      cases h39 with
      | true =>
        go_wp2_with fail
        go_ret
        exact ⟨⟨false, by unfold SafeR; rw [K13.out, if_neg (by decide), if_neg (by decide), if_neg (by decide), if_neg (by decide), if_pos rfl]; exact .inl ⟨K39.out, rfl⟩, rfl⟩, HW.out⟩
      | false =>
        go_wp2_with fail
        refine (HWH.out true _ (HG.out.step HW.out) (HE.out.step HW.out)).mono ?_
        rintro e w4 ⟨⟨x, hx, rfl⟩, hb⟩
        replace HW := Lib.hid (HW.out.trans (hb.mono HW.out.size))
        have HX := Lib.hid hx
        clear hb hx
        go_wp2_with fail
        go_ret
        exact ⟨⟨x, by unfold SafeR; rw [K13.out, if_neg (by decide), if_neg (by decide), if_neg (by decide), if_neg (by decide), if_pos rfl]; exact .inr ⟨K39.out, HX.out⟩, rfl⟩, HW.out⟩
    by_cases s5 : st = 5
    · subst s5
      go_enter Tryz.func11, Tryz.ntmps11
      go_wp2_with fail
      refine (HN.out _).mono ?_
      rintro e w1 ⟨rfl, hb⟩
      have HW := Lib.hid hb
      clear hb
      go_wp2_with fail
      refine (C34.out _).mono ?_
      rintro e w3 ⟨rfl, rfl⟩
      cases h34 with
      | true =>
        go_wp2_with fail
        go_ret
        exact ⟨⟨false, by unfold SafeR; rw [K13.out, if_neg (by decide), if_neg (by decide), if_neg (by decide), if_neg (by decide), if_neg (by decide), if_pos rfl]; exact .inl ⟨K34.out, rfl⟩, rfl⟩, HW.out⟩
      | false =>
        go_wp2_with fail
        refine (HWH.out true _ (HG.out.step HW.out) (HE.out.step HW.out)).mono ?_
        rintro e w4 ⟨⟨x, hx, rfl⟩, hb⟩
        replace HW := Lib.hid (HW.out.trans (hb.mono HW.out.size))
        have HX := Lib.hid hx
        clear hb hx
        go_wp2_with fail
        go_ret
        exact ⟨⟨x, by unfold SafeR; rw [K13.out, if_neg (by decide), if_neg (by decide), if_neg (by decide), if_neg (by decide), if_neg (by decide), if_pos rfl]; exact .inr ⟨K34.out, HX.out⟩, rfl⟩, HW.out⟩
    have q0 : (st == 0) = false := by rw [beq_eq_false_iff_ne]; omega
    have q1 : (st == 1) = false := by rw [beq_eq_false_iff_ne]; omega
    have q2 : (st == 2) = false := by rw [beq_eq_false_iff_ne]; omega
    have q3 : (st == 3) = false := by rw [beq_eq_false_iff_ne]; omega
    have q4 : (st == 4) = false := by rw [beq_eq_false_iff_ne]; omega
    have q5 : (st == 5) = false := by rw [beq_eq_false_iff_ne]; omega
    have q6 : (st == 6) = false := by rw [beq_eq_false_iff_ne]; omega
    go_enter Tryz.func11, Tryz.ntmps11
    go_wp2_with fail
    refine (HN.out _).mono ?_
    rintro e w1 ⟨rfl, hb⟩
    have HW := Lib.hid hb
    clear hb
    go_wp2_with fail
    go_ret
    exact ⟨⟨false, by unfold SafeR; rw [K13.out, if_neg (by decide), if_neg s01, if_neg s23, if_neg s4, if_neg s6, if_neg s5], rfl⟩, HW.out⟩
end Go.Proofs.YtbdcghbafopjjaaGreatDoor.Hand
end

section
namespace Go.Proofs.YtbdcghbafopjjaaGreatDoor.Hand
open Go Go.RowKit Go.Proofs.YtbdcghbafopjjaaGreatDoor.Pl Go.Proofs.YtbdcghbafopjjaaGreatDoor.Pb
def EvP (s : List UInt8) (e : Ending) : Prop :=
  (e = .returned (.bool true) ∧ ∀ k : Nat, k < 7 → SafeR s (k : Int) true) ∨ (e = .returned (.bool false) ∧ ∃ k : Nat, k < 7 ∧ SafeR s (k : Int) false)
set_option maxRecDepth 100000 in
set_option maxHeartbeats 4000000 in
theorem every_c (s : List UInt8) (hs : s.length ≤ 100000) (w : World) (hGl : Glob w) (hGE : GlobE w) :
    Calls Tryz.prog 27 #[.string (B s)] w fun e w' => EvP s e ∧ Below w.heap.size w w' := by
  have HG := Lib.hid hGl
  have HE := Lib.hid hGE
  have HS := Lib.hid (fun (k : Nat) W hG hE => safe_c s (k : Int) hs W hG hE)
  obtain ⟨a, ha⟩ : ∃ a, B s = a := ⟨_, rfl⟩
  rw [ha] at HS ⊢
  clear ha hs hGl hGE
  go_enter Tryz.func27, Tryz.ntmps27
  go_wp2_with fail
  go_loopw [4] (fun v wx => ∃ k : Nat, v = .int .i64 (k : Int) ∧ k ≤ 7 ∧ Hid (Below w.heap.size w wx) ∧ Hid (∀ j : Nat, j < k → SafeR s (j : Int) true)) (fun v _ => 7 - (intOf v).toNat)
  case atStart => exact ⟨0, rfl, by decide, Lib.hid (Below.refl _ _), Lib.hid (fun j h => by omega)⟩
  case round =>
    obtain ⟨k, rfl, hk, HW, HD⟩ := hrel
    by_cases hlt : k < 7
    · have q1 : decide ((k : Int) < 7) = true := decide_eq_true (by omega)
      go_wp2_with fail
      refine (HS.out k _ (HG.out.step HW.out) (HE.out.step HW.out)).mono ?_
      rintro e w1 ⟨⟨b, hb, rfl⟩, hbl⟩
      have HW2 := Lib.hid (HW.out.trans (hbl.mono HW.out.size))
      cases b with
      | true =>
        have HN : Hid (∀ j : Nat, j < k + 1 → SafeR s (j : Int) true) := Lib.hid (fun j h => by
          by_cases e : j = k
          · subst e; exact hb
          · exact HD.out j (by omega))
        clear hb hbl
        go_wp2_with fail
        go_roundw
        case rel => exact ⟨k + 1, by go_num, by omega, HW2, HN⟩
        case measure => simp [intOf]; omega
      | false =>
        have HN := Lib.hid hb
        clear hb hbl
        go_wp2_with fail
        go_ret
        exact ⟨.inr ⟨rfl, k, hlt, HN.out⟩, HW2.out⟩
    · obtain rfl : k = 7 := by omega
      go_wp2_with fail
      go_ret
      exact ⟨.inl ⟨rfl, HD.out⟩, HW.out⟩
end Go.Proofs.YtbdcghbafopjjaaGreatDoor.Hand
end
