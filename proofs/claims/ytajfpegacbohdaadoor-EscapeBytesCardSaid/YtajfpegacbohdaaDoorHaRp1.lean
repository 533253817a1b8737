/-
  Hand walks: the library's sync.Once in the run of one goroutine, its lock free and not yet done: the function value is called once.
-/
import Derived.Test.YtajfpegacbohdaaDoorHa0
import Derived.Tactics
import Derived.Tactics2
import Derived.Defers
import Derived.Laws.Pointers
import Derived.Laws.LoneSync
import Derived.RegionTactic
import Derived.RegionCalls
import Derived.ChangeAlike
import Derived.Laws.NewBlocks
namespace Go.Proofs.YtajfpegacbohdaaDoor.Hand
open Go.RowKit

theorem once_disable (w : World) : (callFunc 95 #[]).run Tryd.prog w = .ok (.value (.tuple #[])) w := run_call_mark0 Tryd.func95 (by kernel_rfl) (by kernel_rfl) (by kernel_rfl) .disable (by kernel_rfl) w
theorem once_enable (w : World) : (callFunc 97 #[]).run Tryd.prog w = .ok (.value (.tuple #[])) w := run_call_mark0 Tryd.func97 (by kernel_rfl) (by kernel_rfl) (by kernel_rfl) .enable (by kernel_rfl) w
theorem once_acquire (a : Addr) (w : World) : (callFunc 98 #[.pointer (some a)]).run Tryd.prog w = .ok (.value (.tuple #[])) w := run_call_marked Tryd.func98 (by kernel_rfl) (by kernel_rfl) (by kernel_rfl) .acquire (by kernel_rfl) a w
theorem once_releaseMerge (a : Addr) (w : World) : (callFunc 100 #[.pointer (some a)]).run Tryd.prog w = .ok (.value (.tuple #[])) w := run_call_marked Tryd.func100 (by kernel_rfl) (by kernel_rfl) (by kernel_rfl) .releaseMerge (by kernel_rfl) a w

theorem once_store_deferred (a : Addr) (x : Value) (u : FrameMode) (w : World) (hc : w.cell? a = some x) (hz : w.frozen? a = false) :
    CallsD Tryd.prog 86 #[.pointer (some a), .bool true] u w fun e u' w' => u' = u ∧ (e = .returned (.tuple #[]) ∧ w' = w.drew.setCell a (.int .u32 1)) := by
  have hc' : w.drew.cell? a = some x := by go_simp
  have hz' : w.drew.frozen? a = false := by go_simp
  have hst := run_call_store (P := Tryd.prog) Tryd.func91 (by kernel_rfl) (by kernel_rfl) (by kernel_rfl) (by kernel_rfl) (k := .u32) (y := 1) hc' hz'
  go_enter_d Tryd.func86, Tryd.ntmps86
  go_wp2
  go_region_calls
  all_goals (go_end0; exact ⟨rfl, rfl⟩)
set_option maxRecDepth 100000 in
set_option maxHeartbeats 800000 in
theorem once_unlock_deferred (a : Addr) (u : FrameMode) (w : World) (hc : w.cell? a = some (.int .i32 1)) (hz : w.frozen? a = false) :
    CallsD Tryd.prog 85 #[.pointer (some a)] u w fun e u' w' => u' = u ∧ (e = .returned (.tuple #[]) ∧ w' = w.setCell a (.int .i32 0)) := by
  have hd := once_disable
  have he := once_enable
  have hr := once_releaseMerge
  have hadd := run_call_add (P := Tryd.prog) Tryd.func101 (by kernel_rfl) (by kernel_rfl) (by kernel_rfl) .i32 (by kernel_rfl) (y := -1) (s := 0) hc hz (by simp [go_sem]; rfl)
  have hcv := run_convert_to_unsafe (P := Tryd.prog) (src := 149) (dst := 88) Tryd.underlying149 Tryd.underlying88 (by kernel_rfl) hc
  go_enter_d Tryd.func85, Tryd.ntmps85
  go_wp2
  go_end0
  go_wp2
  go_end0
  exact ⟨rfl, rfl⟩
set_option maxRecDepth 100000 in
set_option maxHeartbeats 800000 in
theorem once_lock_free (a : Addr) (w : World) (hc : w.cell? a = some (.int .i32 0)) (hz : w.frozen? a = false) :
    Calls Tryd.prog 84 #[.pointer (some a)] w fun e w' => e = .returned (.tuple #[]) ∧ w' = w.setCell a (.int .i32 1) := by
  have hd := once_disable
  have he := once_enable
  have ha := once_acquire
  have hcas := run_call_cas_hit (P := Tryd.prog) Tryd.func96 (by kernel_rfl) (by kernel_rfl) (by kernel_rfl) .i32 (by kernel_rfl) (y := 1) hc hz
  have hc' : (w.setCell a (.int .i32 1)).cell? a = some (.int .i32 1) := World.cell?_setCell_same w a _ hc
  have hcv := run_convert_to_unsafe (P := Tryd.prog) (src := 149) (dst := 88) Tryd.underlying149 Tryd.underlying88 (by kernel_rfl) hc'
  go_enter Tryd.func84, Tryd.ntmps84
  go_wp2
  first | go_end0 | (simp only [Exit.inBlock, Exit.then]; refine bodyPost_ret (results_none rfl _ _ _) rfl ?_) | refine bodyPost_ret (results_none rfl _ _ _) rfl ?_
  go_wp2
  go_end0
  exact ⟨rfl, rfl⟩

/-- what the function value, called once, leaves -/
structure OnceRun (b : Nat) (w : World) (Post : World → Prop) : Prop where
  run : Calls Tryd.prog 71 #[.pointer (some ⟨b, 0, none⟩)] w fun e w' => e = .returned (.tuple #[]) ∧ (w'.cell? ⟨b, 0, none⟩ = some (.int .u32 0) ∧ w'.cell? ⟨b, 1, none⟩ = some (.int .i32 1) ∧ w'.frozen? ⟨b, 0, none⟩ = false ∧ w'.frozen? ⟨b, 1, none⟩ = false ∧ Post w')

set_option maxRecDepth 100000 in
set_option maxHeartbeats 1600000 in
theorem once_slow (b : Nat) (Post : World → Prop) (w : World)
    (h0 : w.cell? ⟨b, 0, none⟩ = some (.int .u32 0)) (h1 : w.cell? ⟨b, 1, none⟩ = some (.int .i32 0))
    (f0 : w.frozen? ⟨b, 0, none⟩ = false) (f1 : w.frozen? ⟨b, 1, none⟩ = false)
    (hrun : OnceRun b (w.setCell ⟨b, 1, none⟩ (.int .i32 1)) Post) :
    Calls Tryd.prog 79 #[.pointer (some ⟨b, 0, none⟩), .func (.func 71) #[.pointer (some ⟨b, 0, none⟩)] #[]] w fun e w' => e = .returned (.tuple #[]) ∧
      ∃ w2, Post w2 ∧ w' = (w2.drew.setCell ⟨b, 0, none⟩ (.int .u32 1)).setCell ⟨b, 1, none⟩ (.int .i32 0) := by
  have hl := run_call_load (P := Tryd.prog) Tryd.func83 (by kernel_rfl) (by kernel_rfl) (by kernel_rfl) .u32 (by kernel_rfl) (w := w.setCell ⟨b, 1, none⟩ (.int .i32 1)) (a := ⟨b, 0, none⟩) (x := 0) ((World.cell?_setCell_other _ ⟨b, 1, none⟩ ⟨b, 0, none⟩ _ (by simp)).trans h0)
  have hnot : ∀ (x : Bool) (w : World), (Op.unary .not (.bool x)).run Tryd.prog w = .ok (.bool (!x)) w := fun _ _ => rfl
  go_enter_defers Tryd.func79, Tryd.ntmps79
  go_wp2_with (first | (go_at_call 84; refine (once_lock_free ⟨b, 1, none⟩ _ (by go_simp) (by go_simp)).mono ?_; rintro e w' ⟨rfl, rfl⟩) | (go_at_call 78; go_in))
  refine hrun.run.mono ?_
  rintro e w2 ⟨rfl, g0, g1, z0, z1, hp⟩
  have HP := Lib.hid hp
  clear hp h0 h1 f0 f1 hrun hl
  go_wp2_with fail
  refine leaves_cons (f := 86) (args := #[.pointer (some ⟨b, 0, none⟩), .bool true]) (by simp) (by simp [go_sem]) ?_
  refine (once_store_deferred ⟨b, 0, none⟩ (.int .u32 0) .returning _ g0 z0).mono ?_
  rintro e u' w'' ⟨rfl, rfl, rfl⟩
  refine leaves_cons (f := 85) (args := #[.pointer (some ⟨b, 1, none⟩)]) (by simp [settle]) (by simp [go_sem]) ?_
  refine (once_unlock_deferred ⟨b, 1, none⟩ _ _ ?_ (by simp [z1])).mono ?_
  · refine (World.cell?_setCell_other _ ⟨b, 0, none⟩ ⟨b, 1, none⟩ _ (by simp)).trans ?_
    rw [World.cell?_drew]
    exact g1
  rintro e u' w'' ⟨rfl, rfl, rfl⟩
  exact ⟨.tuple #[], results_none rfl _ _ _, rfl, w2, HP.out, rfl⟩
set_option maxRecDepth 100000 in
set_option maxHeartbeats 1600000 in
theorem once_do (b : Nat) (Post : World → Prop) (w : World)
    (h0 : w.cell? ⟨b, 0, none⟩ = some (.int .u32 0)) (h1 : w.cell? ⟨b, 1, none⟩ = some (.int .i32 0))
    (f0 : w.frozen? ⟨b, 0, none⟩ = false) (f1 : w.frozen? ⟨b, 1, none⟩ = false)
    (hrun : OnceRun b (w.setCell ⟨b, 1, none⟩ (.int .i32 1)) Post) :
    Calls Tryd.prog 70 #[.pointer (some ⟨b, 0, none⟩), .func (.func 71) #[.pointer (some ⟨b, 0, none⟩)] #[]] w fun e w' => e = .returned (.tuple #[]) ∧
      ∃ w2, Post w2 ∧ w' = (w2.drew.setCell ⟨b, 0, none⟩ (.int .u32 1)).setCell ⟨b, 1, none⟩ (.int .i32 0) := by
  have hl := run_call_load (P := Tryd.prog) Tryd.func83 (by kernel_rfl) (by kernel_rfl) (by kernel_rfl) .u32 (by kernel_rfl) h0
  have hnot : ∀ (x : Bool) (w : World), (Op.unary .not (.bool x)).run Tryd.prog w = .ok (.bool (!x)) w := fun _ _ => rfl
  have C := Lib.hid (once_slow b Post w h0 h1 f0 f1 hrun)
  clear h0 h1 f0 f1 hrun
  go_enter Tryd.func70, Tryd.ntmps70
  go_wp2_with (go_at_call 78; go_in)
  refine C.out.mono ?_
  rintro e w' ⟨rfl, hw⟩
  have HW := Lib.hid hw
  clear hw C
  go_wp2_with fail
  go_end0
  exact ⟨rfl, HW.out⟩
end Go.Proofs.YtajfpegacbohdaaDoor.Hand
