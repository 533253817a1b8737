/-
  Hand walk: flailref11.Parse: what its helpers answer, by positions.
-/
import Derived.Test.YtajfpegacbohdaaDoorPlDP
namespace Go.Proofs.YtajfpegacbohdaaDoor.Hand
open Go.RowKit Go.Proofs.YtajfpegacbohdaaDoor.K0 Go.Proofs.YtajfpegacbohdaaDoor.Pl Go.Proofs.YtajfpegacbohdaaDoor.Pb Go.Proofs.YtajfpegacbohdaaDoor.Sa Go.Proofs.YtajfpegacbohdaaDoor.Sr Go.Proofs.YtajfpegacbohdaaDoor.Pure Go.Proofs.YtajfpegacbohdaaDoorW.PrintWords Go.Proofs.YtajfpegacbohdaaDoorW.PrintLast Go.Proofs.YtajfpegacbohdaaDoorW.PrintMore

theorem pass_p (s : List UInt8) (n : Nat) (x : Int) (hx : x = (n : Int)) (hs : s.length ≤ 1000000) (hn : n ≤ s.length) (w : World) :
    Calls Tryd.prog 21 #[.string (B s), .int .i64 x] w fun e w' => e = .returned (.int .i64 ((pasN s n : Nat) : Int)) ∧ Below w.heap.size w w' := by
  subst hx
  have := pass_any (B s) n w (by simpa using hs) (by simpa using hn)
  rw [B_data] at this
  exact this
theorem quote_p (s : List UInt8) (n : Nat) (hs : s.length ≤ 1000000) (hn : n ≤ s.length) (w : World) :
    Calls Tryd.prog 26 #[.string (B s), .int .i64 (n : Int)] w fun e w' => e = .returned (.bool (isQ (s.drop n))) ∧ Below w.heap.size w w' := by
  have := quote_any (B s) n w (by simpa using hs) (by simpa using hn)
  rw [B_data] at this
  exact this
theorem until_p (s : List UInt8) (n : Nat) (hs : s.length ≤ 1000000) (hn : n < s.length) (w : World) :
    Calls Tryd.prog 27 #[.string (B s), .int .i64 (n : Int)] w fun e w' => e = .returned (.int .i64 ((untN s n s[n] : Nat) : Int)) ∧ Below w.heap.size w w' := by
  have := until_any (B s) n w (by simpa using hs) (by simpa using hn)
  rw [B_data] at this
  exact this
theorem rlower_c (l : List UInt8) (h : l.length ≤ 1000000) (w : World) : Calls Tryd.prog 24 #[.string (B l)] w fun e w' => e = .returned (.string (B (lowL l))) ∧ Below w.heap.size w w' := by
  obtain ⟨k, hk⟩ := (refLower l h).rounds
  exact flailref03_Lower.calls k _ _ w hk
theorem extract_unt (s : List UInt8) (i : Nat) (q : UInt8) : (B s).extract (i + 1) (untN s i q) = B (upto q (s.drop (i + 1))) := by
  rw [B_extract, List.drop_take, unt_take]
end Go.Proofs.YtajfpegacbohdaaDoor.Hand
