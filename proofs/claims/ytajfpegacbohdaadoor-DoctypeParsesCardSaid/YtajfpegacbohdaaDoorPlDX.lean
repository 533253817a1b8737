/-
  Plain: a doctype read by positions, in the order of the reference's text.
-/
import Derived.Test.YtajfpegacbohdaaDoorPlDP
namespace Go.Proofs.YtajfpegacbohdaaDoor.Pure
open Go Go.RowKit Go.Proofs.YtajfpegacbohdaaDoor.Hand Go.Proofs.YtajfpegacbohdaaDoor.Pl Go.Proofs.YtajfpegacbohdaaDoor.Pb

/-- where the second word begins, if the first begins at i -/
def secN (raw : List UInt8) (i : Nat) : Nat := pasN raw (i + wordLen (raw.drop i))
def namN (raw : List UInt8) (i : Nat) : List UInt8 := cleanL (lowL ((raw.drop i).take (wordLen (raw.drop i))))
/-- behind the word -/
def restD (raw : List UInt8) (en : Bool) (n : List UInt8) (j : Nat) : DocR :=
  if raw.drop j = [] then (n, [], [], true, false, false, !en)
  else if begR (raw.drop j) publicL = true then pubD n (raw.drop j) en
  else if begR (raw.drop j) systemL = true then sysD n [] true false (raw.drop (pasN raw (j + 6))) en
  else (n, [], [], true, false, false, true)
theorem parse_pos {raw : List UInt8} {en : Bool} {i : Nat} (h : raw.drop i = trimL raw) (hne : ¬ raw.drop i = []) :
    parseD raw en = restD raw en (namN raw i) (secN raw i) := by
  have e : ∀ k, trimL ((raw.drop i).drop k) = raw.drop (pasN raw (i + k)) := fun k => by rw [List.drop_drop, pas_drop]
  have e2 : ∀ j, trimL ((raw.drop j).drop 6) = raw.drop (pasN raw (j + 6)) := fun j => by rw [List.drop_drop, pas_drop]
  unfold parseD restD namN nameD secN
  rw [← h, if_neg hne, e, e2]
theorem word_len_le (s : List UInt8) : wordLen s ≤ s.length := (List.takeWhile_sublist _).length_le
theorem six_lt {raw : List UInt8} {j : Nat} {w : List UInt8} (hw : w.length = 6) (h : begR (raw.drop j) w = true) : j + 6 ≤ raw.length := by
  have := begR_length _ _ h
  rw [List.length_drop, hw] at this
  omega
/-- behind 'public' or 'system', from the quote on -/
def quoD (n : List UInt8) (raw : List UInt8) (en pub : Bool) (j i : Nat) : DocR := if pub = true then pubD n (raw.drop j) en else sysD n [] true false (raw.drop i) en
theorem quo_no {raw n : List UInt8} {en pub : Bool} {j : Nat} (h : isQ (raw.drop (pasN raw (j + 6))) = false) : quoD n raw en pub j (pasN raw (j + 6)) = (n, [], [], true, false, false, true) := by
  unfold quoD
  cases pub with
  | true => exact pub_no n en (by rw [List.drop_drop, pas_drop]) h
  | false => exact sys_no n [] true false en h
end Go.Proofs.YtajfpegacbohdaaDoor.Pure
