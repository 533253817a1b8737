/-
  Laws for a scope whose code goes to labels: what holds at each jump, with a number (a ghost) that each jump lowers.
-/
import Derived.WalkKit
import Derived.WalkMore
import Derived.ScopeJumps
import Derived.Lib.Hide
namespace Go.Proofs.YtajfpegacbohdaaDoor.Hand
open Go.RowKit

/-- As Q; by a goto: J. -/
def Exit.jumps (J : Nat → Act → World → Prop) (Q : Exit → Act → World → Prop) : Exit → Act → World → Prop
  | .goto l, a, w => J l a w
  | e, a, w => Q e a w
section
variable {P : Program} {a : Act} {w : World} {Q : Exit → Act → World → Prop}
@[go_sem] theorem Exit.jumps_ret {J : Nat → Act → World → Prop} : Exit.jumps J Q .ret a w = Q .ret a w := rfl
@[go_sem] theorem Exit.jumps_normal {J : Nat → Act → World → Prop} : Exit.jumps J Q .normal a w = Q .normal a w := rfl
@[go_sem] theorem Exit.jumps_exit {J : Nat → Act → World → Prop} (id : Nat) : Exit.jumps J Q (.exit id) a w = Q (.exit id) a w := rfl
@[go_sem] theorem Exit.jumps_panic {J : Nat → Act → World → Prop} (ch : List PanicEntry) : Exit.jumps J Q (.panic ch) a w = Q (.panic ch) a w := rfl
theorem Exit_jumps_mono {J J' : Nat → Act → World → Prop} (h : ∀ l a w, J l a w → J' l a w) : ∀ e a w, Exit.jumps J Q e a w → Exit.jumps J' Q e a w := by
  intro e a w hq
  cases e with
  | goto l' => exact h _ _ _ hq
  | _ => exact hq

theorem wp_scope_gen {c : Code} (J : Nat → Nat → Act → World → Prop)
    (pass : ∀ l g a w, J l g a w → ∃ rest, findLabel c l = some rest ∧ rest.wp P (Exit.jumps (fun l' a' w' => ∃ g', g' < g ∧ J l' g' a' w') Q) a w)
    (first : c.wp P (Exit.jumps (fun l a w => ∃ g, J l g a w) Q) a w) : (Code.scope c).wp P Q a w := by
  intro b k cs
  have key : ∀ g l a w, J l g a w → ∃ rest, findLabel c l = some rest ∧ ∃ e a' w', Q e a' w' ∧ Arrives P (lone (b.at a (.code rest :: .inScope c :: k)) cs w) b k cs e a' w' := by
    intro g
    induction g using Nat.strongRecOn with
    | _ g ih =>
      intro l a w hJ
      obtain ⟨rest, hf, hp⟩ := pass l g a w hJ
      refine ⟨rest, hf, ?_⟩
      obtain ⟨e, a₁, w₁, hq, harr⟩ := hp b (.inScope c :: k) cs
      cases e with
      | normal => exact ⟨.normal, a₁, w₁, hq, Steps.trans harr (.one step_inScope)⟩
      | exit id => exact ⟨.exit id, a₁, w₁, hq, fun k' hk => harr k' (by simp [exitTo, hk])⟩
      | goto l' =>
        obtain ⟨g', hlt, hJ'⟩ := hq
        obtain ⟨rest', hf', e₂, a₂, w₂, hq₂, harr₂⟩ := ih g' hlt l' a₁ w₁ hJ'
        have hg : gotoIn l' (.inScope c :: k) = some (.code rest' :: .inScope c :: k) := by simp [gotoIn, hf']
        exact ⟨e₂, a₂, w₂, hq₂, .of_steps (harr _ hg) harr₂⟩
      | ret => exact ⟨_, a₁, w₁, hq, harr⟩
      | panic ch => exact ⟨_, a₁, w₁, hq, harr⟩
      | outgrown => exact ⟨_, a₁, w₁, hq, harr⟩
  obtain ⟨e, a₁, w₁, hq, harr⟩ := first b (.inScope c :: k) cs
  cases e with
  | normal => exact ⟨.normal, a₁, w₁, hq, .head step_scope (Steps.trans harr (.one step_inScope))⟩
  | exit id => exact ⟨.exit id, a₁, w₁, hq, fun k' hk => .head step_scope (harr k' (by simp [exitTo, hk]))⟩
  | goto l' =>
    obtain ⟨g', hJ'⟩ := hq
    obtain ⟨rest', hf', e₂, a₂, w₂, hq₂, harr₂⟩ := key g' l' a₁ w₁ hJ'
    have hg : gotoIn l' (.inScope c :: k) = some (.code rest' :: .inScope c :: k) := by simp [gotoIn, hf']
    exact ⟨e₂, a₂, w₂, hq₂, .of_steps (.head step_scope (harr _ hg)) harr₂⟩
  | ret => exact ⟨_, a₁, w₁, hq, .of_steps (.one step_scope) harr⟩
  | panic ch => exact ⟨_, a₁, w₁, hq, .of_steps (.one step_scope) harr⟩
  | outgrown => exact ⟨_, a₁, w₁, hq, .of_steps (.one step_scope) harr⟩

/-- One label, come back to: B is what stands behind it. -/
theorem wp_scope_back {c B : Code} (l : Nat) (J : Nat → Act → World → Prop) (hf : findLabel c l = some (.seq .skip B))
    (first : (∀ g a w, J g a w → B.wp P (Exit.jumps (fun l' a' w' => l' = l ∧ ∃ g', J g' a' w') Q) a w) → c.wp P (Exit.jumps (fun l' a' w' => l' = l ∧ ∃ g', J g' a' w') Q) a w)
    (pass : ∀ g a w, J g a w → B.wp P (Exit.jumps (fun l' a' w' => l' = l ∧ ∃ g', g' < g ∧ J g' a' w') Q) a w) : (Code.scope c).wp P Q a w := by
  refine wp_scope_gen (fun l' g a w => l' = l ∧ J g a w) ?_ ?_
  · rintro l' g a w ⟨rfl, hJ⟩
    exact ⟨_, hf, wp_seq (wp_skip (wp_mono (pass g a w hJ) (Exit_jumps_mono fun l'' a' w' ⟨e, g', hg, h⟩ => ⟨g', hg, e, h⟩)))⟩
  · refine wp_mono (first fun g a w hJ => wp_mono (pass g a w hJ) (Exit_jumps_mono fun l'' a' w' ⟨e, g', _, h⟩ => ⟨e, g', h⟩)) (Exit_jumps_mono fun l'' a' w' ⟨e, g', h⟩ => ⟨g', e, h⟩)
end
end Go.Proofs.YtajfpegacbohdaaDoor.Hand
