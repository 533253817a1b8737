/-
  The document's Read whole; CommentReads.
-/
import Derived.Test.YtppaobgccdlccaaDoorPuCm
import Derived.Test.YtppaobgccdlccaaDoorLc1
namespace Go.Proofs.YtppaobgccdlccaaDoor.Pure
open Go Go.RowKit Go.Proofs.YtppaobgccdlccaaDoor.K0 Go.Proofs.YtppaobgccdlccaaDoor.Hand Go.Proofs.YtppaobgccdlccaaDoor.Sa Go.Proofs.YtppaobgccdlccaaDoor.Sr Go.Proofs.YtppaobgccdlccaaDoor.Sm Go.Proofs.YtppaobgccdlccaaDoor.Lc Go.Proofs.YtppaobgccdlccaaDoorW.PrintWords Go.Proofs.YtppaobgccdlccaaDoorW.PrintMore Go.Proofs.YtppaobgccdlccaaDoor.Pl Go.Proofs.YtppaobgccdlccaaDoor.Pb

theorem pre_beg4 (r : List UInt8) : [60, 33, 45, 45].isPrefixOf r = begR r [60, 33, 45, 45] := by
  match r with
  | [] => rfl
  | [a] => simp [List.isPrefixOf, begR]
  | [a, b] => simp [List.isPrefixOf, begR]
  | [a, b, c] => simp [List.isPrefixOf, begR]
  | a :: b :: c :: d :: t =>
    simp only [List.isPrefixOf, begR, lw60, lw33, lw45, Bool.and_true]
    rw [show ((60 : UInt8) == a) = (a == 60) from Bool.beq_comm, show ((33 : UInt8) == b) = (b == 33) from Bool.beq_comm, show ((45 : UInt8) == c) = (c == 45) from Bool.beq_comm, show ((45 : UInt8) == d) = (d == 45) from Bool.beq_comm]
theorem refRead (s : List UInt8) (n : Nat) (hs : s.length ≤ 1000000) (hn : n ≤ s.length) : Ev (fun k => flailref10_Read.f k (B s) (n : Int)) (tokC n (s.drop n)) := by
  unfold flailref10_Read.f tokC
  refine Ev.bind (refBegC s n hs hn) ?_
  cases hb : begC (s.drop n) with
  | false => simp only [Bool.false_eq_true, if_false]; exact Ev.now _
  | true =>
    match hr : s.drop n with
    | [] => rw [hr] at hb; simp [begC] at hb
    | [c] => rw [hr] at hb; simp [begC] at hb
    | c :: d :: t =>
      have hlt := drop_lt hr
      have hr1 : s.drop (n + 1) = d :: t := by rw [← List.drop_drop, hr]; rfl
      have hlt1 := drop_lt hr1
      have w1 : wrap64 ((n : Int) + 1) = ((n + 1 : Nat) : Int) := by unfold wrap64; omega
      have w2 : wrap64 ((n : Int) + 2) = ((n + 2 : Nat) : Int) := by unfold wrap64; omega
      have w4 : wrap64 ((n : Int) + 4) = ((n + 4 : Nat) : Int) := by unfold wrap64; omega
      have hc : c = 60 := by
        rw [hr] at hb; simp only [begC, Bool.and_eq_true, beq_iff_eq] at hb; exact hb.1
      subst hc
      simp only [if_true, if_pos (show (0 : Int) ≤ (n : Int) by omega), if_pos (show (n : Int) ≤ (s.length : Int) by omega), Int.toNat_natCast, size_B, extract_drop s n hn, show (⟨#[60, 33, 45, 45]⟩ : ByteArray) = B [60, 33, 45, 45] from rfl, refPre, Option.bind_some, pre_beg4, w1, w2, w4]
      rw [hr]
      unfold readC
      cases h1 : begR (60 :: d :: t) [60, 33, 45, 45] with
      | true =>
        have l1 := begR_length (([60, 33, 45, 45] : List UInt8)) (s.drop n) (by rw [hr]; exact h1)
        simp only [List.length_drop, List.length_cons, List.length_nil] at l1
        simp only [if_true, if_pos (show (0 : Int) ≤ ((n + 4 : Nat) : Int) by omega), if_pos (show ((n + 4 : Nat) : Int) ≤ (s.length : Int) by omega), Int.toNat_natCast, extract_drop s (n + 4) (by omega)]
        have hd : s.drop (n + 4) = (60 :: d :: t).drop 4 := by rw [← List.drop_drop, hr]
        rw [hd]
        have hL := plainL_le ((60 :: d :: t).drop 4)
        have hlen : ((60 :: d :: t).drop 4).length ≤ 1000000 := by rw [← hd]; simp; omega
        refine Ev.bind (refPlain _ hlen) (Ev.bind (refClean (plainL ((60 :: d :: t).drop 4)).1 (by omega)) ?_)
        have w : wrap64 (((n + 4 : Nat) : Int) + ((plainL ((60 :: d :: t).drop 4)).2 : Int)) = ((n + (4 + (plainL ((60 :: d :: t).drop 4)).2) : Nat) : Int) := by unfold wrap64; omega
        simp only [w]
        exact Ev.now _
      | false =>
        have hdL : s.drop (n + 2) = t := by rw [← List.drop_drop, hr]; rfl
        simp only [Bool.false_eq_true, if_false, if_pos (show (0 : Int) ≤ ((n + 1 : Nat) : Int) by omega), if_pos (show ((n + 1 : Nat) : Int) < (s.length : Int) by omega), bt_drop s (n + 1) d t hr1, u63]
        have b63 : begR (60 :: d :: t) [60, 63] = (d == 63) := by simp [begR, lw60, lw63]
        rw [b63]
        by_cases h63 : d = 63
        · simp only [h63, if_true, BEq.rfl]
          have := refBogus s (n + 1) (by omega) hs
          rw [hr1, h63] at this
          rw [show n + (1 + (otherL ((60 :: 63 :: t).drop 1)).2) = n + 1 + (otherL ((60 :: 63 :: t).drop 1)).2 by omega]
          exact this
        · simp only [if_neg h63, show (d == 63) = false by simpa using h63, Bool.false_eq_true, if_false]
          have := refBogus s (n + 2) (by omega) hs
          rw [hdL] at this
          rw [show n + (2 + (otherL ((60 :: d :: t).drop 2)).2) = n + 2 + (otherL ((60 :: d :: t).drop 2)).2 by omega]
          exact this
theorem refRead_past (s : List UInt8) (n : Int) (h : n < 0 ∨ (s.length : Int) < n) (hs : s.length ≤ 1000000) : Ev (fun k => flailref10_Read.f k (B s) n) (0, B [], B [], [], false, n, false) := by
  unfold flailref10_Read.f
  refine Ev.bind (refBegC_out s n (by omega) hs) ?_
  simp only [Bool.false_eq_true, if_false]
  exact Ev.now _
theorem same08_nil : Ev (fun k => flailref08_Same.f k [] []) true := by
  unfold flailref08_Same.f
  simp only [if_true]
  exact Ev.step (f := fun _ => some true) (fun k => by rw [flailref08_Same.l0, if_neg (by simp)]) (Ev.now _)
theorem same09 (x : Int) (a b : ByteArray) (f : Bool) : Ev (fun k => flailref09_Same.f k x a b [] f x a b [] f) true := by
  unfold flailref09_Same.f
  simp only [if_true, BEq.rfl]
  exact Ev.bind same08_nil (Ev.now _)
theorem awake10 : flaillaw10_awake.f = some true := rfl
theorem CommentReads : flaillaw10_CommentReads.Pure := by
  intro a0 a1 _ _
  obtain ⟨s, rfl⟩ := exists_B a0
  refine Ev.rounds (?_ : Ev (fun k => flaillaw10_CommentReads.f k (B s) a1) true)
  unfold flaillaw10_CommentReads.f
  simp only [awake10, Option.bind_some]
  by_cases h : s.length > 300
  · simp only [if_pos (show ((B s).size : Int) > 300 by simp; omega)]; exact Ev.now _
  · simp only [if_neg (show ¬ ((B s).size : Int) > 300 by simp; omega)]
    have key : ∀ (T : Int × ByteArray × ByteArray × List S88 × Bool × Int × Bool) (b : Bool), comment_Read.f (B s) a1 = some T → T.2.2.2.1 = [] → Ev (fun k => flailref10_Read.f k (B s) a1) T → comment_Begins.f (B s) a1 = some b → Ev (fun k => flailref10_Begins.f k (B s) a1) b →
        Ev (fun k => (comment_Read.f (B s) a1).bind fun bt102 => ((flailref10_Read.f k (B s) a1).bind fun bt112 => (if true = true then ((flailref09_Same.f k bt102.1 bt102.2.1 bt102.2.2.1 bt102.2.2.2.1 bt102.2.2.2.2.1 bt112.1 bt112.2.1 bt112.2.2.1 bt112.2.2.2.1 bt112.2.2.2.2.1).bind fun t122 => (if t122 = true then (if bt102.2.2.2.2.2.1 = bt112.2.2.2.2.2.1 then (if (bt102.2.2.2.2.2.2 == bt112.2.2.2.2.2.2) = true then ((comment_Begins.f (B s) a1).bind fun t123 => ((flailref10_Begins.f k (B s) a1).bind fun t124 => (some (t123 == t124)))) else (some false)) else (some false)) else (some false))) else (some false)))) true := by
      intro T b h1 h2 h3 h4 h5
      simp only [h1, Option.bind_some, h4]
      refine Ev.bind h3 ?_
      simp only [if_true, h2]
      refine Ev.bind (same09 _ _ _ _) ?_
      simp only [if_true, BEq.rfl]
      refine Ev.bind h5 ?_
      simp only [BEq.rfl]
      exact Ev.now _
    by_cases hr : a1 < 0 ∨ (s.length : Int) < a1
    · exact key _ _ (read_past s a1 hr (by omega)) rfl (refRead_past s a1 hr (by omega)) (begC_past s a1 hr) (refBegC_out s a1 (by omega) (by omega))
    · obtain ⟨n, rfl⟩ : ∃ n : Nat, a1 = n := ⟨a1.toNat, by omega⟩
      refine key _ _ (read_f s n (by omega) (by omega)) ?_ (refRead s n (by omega) (by omega)) (begC_f s n (by omega) (by omega)) (refBegC s n (by omega) (by omega))
      unfold tokC; split <;> rfl
end Go.Proofs.YtppaobgccdlccaaDoor.Pure
