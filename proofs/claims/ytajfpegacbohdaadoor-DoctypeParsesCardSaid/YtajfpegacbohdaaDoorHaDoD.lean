/-
  Hand walks: flailref11.Begins, flailref11.Read; a law: flaillaw11.DoctypeReads.
-/
import Derived.Test.YtajfpegacbohdaaDoorHaDoR
import Derived.Test.YtajfpegacbohdaaDoorPuRef
namespace Go.Proofs.YtajfpegacbohdaaDoor.Hand
open Go.RowKit Go.Proofs.YtajfpegacbohdaaDoor.K0 Go.Proofs.YtajfpegacbohdaaDoor.Pl Go.Proofs.YtajfpegacbohdaaDoor.Pb Go.Proofs.YtajfpegacbohdaaDoor.Sa Go.Proofs.YtajfpegacbohdaaDoor.Sr Go.Proofs.YtajfpegacbohdaaDoor.Pure Go.Proofs.YtajfpegacbohdaaDoorW.PrintWords Go.Proofs.YtajfpegacbohdaaDoorW.PrintLast Go.Proofs.YtajfpegacbohdaaDoorW.PrintMore

theorem rbegins_c (s low : List UInt8) (a : Int) (hs : s.length ≤ 1000000) (hl : low.length ≤ 1000000) (w : World) :
    Calls Tryd.prog 25 #[.string (B s), .int .i64 a, .string (B low)] w fun e w' => e = .returned (.bool (begAt s a low)) ∧ Below w.heap.size w w' := by
  unfold begAt
  by_cases h : 0 ≤ a ∧ a ≤ (s.length : Int)
  · rw [if_pos h]
    obtain ⟨n, rfl⟩ : ∃ n : Nat, a = n := ⟨a.toNat, by omega⟩
    obtain ⟨k, hk⟩ := (refBegins s low n hs hl (by omega)).rounds
    exact flailref03_Begins.calls k _ _ _ _ w hk
  · rw [if_neg h]
    obtain ⟨k, hk⟩ := (refBegins_past s low a (by omega)).rounds
    exact flailref03_Begins.calls k _ _ _ _ w hk
theorem rclean_c (l : List UInt8) (h : l.length ≤ 1000000) (w : World) : Calls Tryd.prog 23 #[.string (B l)] w fun e w' => e = .returned (.string (B (cleanL l))) ∧ Below w.heap.size w w' := by
  obtain ⟨k, hk⟩ := (refClean l h).rounds
  refine (flailref02_Clean.calls k _ _ w hk).mono ?_
  rintro e w' ⟨h1, h2⟩
  exact ⟨h1, h2.below⟩
theorem begAt_no {s : List UInt8} {a : Int} (h : ¬ ∃ n : Nat, a = n ∧ n ≤ s.length ∧ begR (s.drop n) doctB = true) : begAt s a doctB = false := by
  unfold begAt
  by_cases hr : 0 ≤ a ∧ a ≤ (s.length : Int)
  · rw [if_pos hr]
    rw [Bool.eq_false_iff]
    intro e
    exact h ⟨a.toNat, by omega, by omega, e⟩
  · rw [if_neg hr]
end Go.Proofs.YtajfpegacbohdaaDoor.Hand
