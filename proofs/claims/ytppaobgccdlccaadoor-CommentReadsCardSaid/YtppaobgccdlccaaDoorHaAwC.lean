/-
  Hand walk: flaillaw10.awake: the examples, all of them of fixed texts.
-/
import Derived.Test.YtppaobgccdlccaaDoorHaCmt
namespace Go.Proofs.YtppaobgccdlccaaDoor.Hand
open Go.RowKit Go.Proofs.YtppaobgccdlccaaDoor.K0 Go.Proofs.YtppaobgccdlccaaDoor.Pl Go.Proofs.YtppaobgccdlccaaDoor.Sa Go.Proofs.YtppaobgccdlccaaDoorW.PrintWords Go.Proofs.YtppaobgccdlccaaDoorW.PrintLast Go.Proofs.YtppaobgccdlccaaDoorW.PrintMore

theorem awc1 : comment_Read.f ⟨#[60, 33, 45, 45, 97, 45, 45, 62]⟩ 0 = some (3, ⟨#[]⟩, ⟨#[97]⟩, [], false, 8, true) := by kernel_rfl
theorem awc2 : comment_Read.f ⟨#[60, 33, 45, 45, 62]⟩ 0 = some (3, ⟨#[]⟩, ⟨#[]⟩, [], false, 5, true) := by kernel_rfl
theorem awc3 : comment_Read.f ⟨#[60, 63, 120, 62]⟩ 0 = some (3, ⟨#[]⟩, ⟨#[63, 120]⟩, [], false, 4, true) := by kernel_rfl
theorem awc4 : comment_Read.f ⟨#[60, 47, 32, 97, 62]⟩ 0 = some (3, ⟨#[]⟩, ⟨#[32, 97]⟩, [], false, 5, true) := by kernel_rfl
theorem awc5 : comment_Begins.f ⟨#[60, 33]⟩ 0 = some true := by kernel_rfl

set_option maxRecDepth 100000 in
set_option maxHeartbeats 2000000 in
theorem awake10_any (w : World) (hGl : Glob w) : Calls Tryd.prog 36 #[] w fun e w' => e = .returned (.bool true) ∧ Below w.heap.size w w' := by
  have hu35 := Tryd.underlying35
  have HB0 := Lib.hid (Below.refl w.heap.size w)
  go_enter Tryd.func36, Tryd.ntmps36
  go_wp2_with fail
  refine (comment_Read.exact _ _ _ _ _ _ _ _ _ _ (hGl.step HB0.out) awc1).mono ?_
  rintro e w1 ⟨rfl, -, hb⟩
  have HA1 := Lib.hid (HB0.out.trans (hb.mono HB0.out.size))
  clear hb
  go_wp2_with fail
  have HT1 := Lib.hid (Tok.of_alloc #[.int .i64 3, .string ⟨#[]⟩, .string ⟨#[97]⟩, .slice none 0 0, .bool false] 35 w1)
  have HB1 := Lib.hid (HA1.out.alloc HA1.out.size (.cells #[.int .i64 3, .string ⟨#[]⟩, .string ⟨#[97]⟩, .slice none 0 0, .bool false] 35))
  have hb : Below w1.heap.size w1 (w1.alloc (.cells #[.int .i64 3, .string ⟨#[]⟩, .string ⟨#[97]⟩, .slice none 0 0, .bool false] 35)) := Below.alloc (Below.refl _ _) (Nat.le_refl _) _
  have hsz1 : w1.heap.size < (w1.alloc (.cells #[.int .i64 3, .string ⟨#[]⟩, .string ⟨#[97]⟩, .slice none 0 0, .bool false] 35)).heap.size := by simp
  clear hb HA1
  refine (comment_Read.exact _ _ _ _ _ _ _ _ _ _ (hGl.step HB1.out) awc2).mono ?_
  rintro e w2 ⟨rfl, -, hb⟩
  have HA2 := Lib.hid (HB1.out.trans (hb.mono HB1.out.size))
  replace HT1 := Lib.hid (HT1.out.below hb hsz1)
  replace hsz1 := Nat.lt_of_lt_of_le hsz1 hb.size
  clear hb
  go_wp2_with fail
  have HT2 := Lib.hid (Tok.of_alloc #[.int .i64 3, .string ⟨#[]⟩, .string ⟨#[]⟩, .slice none 0 0, .bool false] 35 w2)
  have HB2 := Lib.hid (HA2.out.alloc HA2.out.size (.cells #[.int .i64 3, .string ⟨#[]⟩, .string ⟨#[]⟩, .slice none 0 0, .bool false] 35))
  have hb : Below w2.heap.size w2 (w2.alloc (.cells #[.int .i64 3, .string ⟨#[]⟩, .string ⟨#[]⟩, .slice none 0 0, .bool false] 35)) := Below.alloc (Below.refl _ _) (Nat.le_refl _) _
  replace HT1 := Lib.hid (HT1.out.below hb hsz1)
  replace hsz1 := Nat.lt_of_lt_of_le hsz1 hb.size
  have hsz2 : w2.heap.size < (w2.alloc (.cells #[.int .i64 3, .string ⟨#[]⟩, .string ⟨#[]⟩, .slice none 0 0, .bool false] 35)).heap.size := by simp
  clear hb HA2
  refine (comment_Read.exact _ _ _ _ _ _ _ _ _ _ (hGl.step HB2.out) awc3).mono ?_
  rintro e w3 ⟨rfl, -, hb⟩
  have HA3 := Lib.hid (HB2.out.trans (hb.mono HB2.out.size))
  replace HT1 := Lib.hid (HT1.out.below hb hsz1)
  replace hsz1 := Nat.lt_of_lt_of_le hsz1 hb.size
  replace HT2 := Lib.hid (HT2.out.below hb hsz2)
  replace hsz2 := Nat.lt_of_lt_of_le hsz2 hb.size
  clear hb
  go_wp2_with fail
  have HT3 := Lib.hid (Tok.of_alloc #[.int .i64 3, .string ⟨#[]⟩, .string ⟨#[63, 120]⟩, .slice none 0 0, .bool false] 35 w3)
  have HB3 := Lib.hid (HA3.out.alloc HA3.out.size (.cells #[.int .i64 3, .string ⟨#[]⟩, .string ⟨#[63, 120]⟩, .slice none 0 0, .bool false] 35))
  have hb : Below w3.heap.size w3 (w3.alloc (.cells #[.int .i64 3, .string ⟨#[]⟩, .string ⟨#[63, 120]⟩, .slice none 0 0, .bool false] 35)) := Below.alloc (Below.refl _ _) (Nat.le_refl _) _
  replace HT1 := Lib.hid (HT1.out.below hb hsz1)
  replace hsz1 := Nat.lt_of_lt_of_le hsz1 hb.size
  replace HT2 := Lib.hid (HT2.out.below hb hsz2)
  replace hsz2 := Nat.lt_of_lt_of_le hsz2 hb.size
  have hsz3 : w3.heap.size < (w3.alloc (.cells #[.int .i64 3, .string ⟨#[]⟩, .string ⟨#[63, 120]⟩, .slice none 0 0, .bool false] 35)).heap.size := by simp
  clear hb HA3
  refine (comment_Read.exact _ _ _ _ _ _ _ _ _ _ (hGl.step HB3.out) awc4).mono ?_
  rintro e w4 ⟨rfl, -, hb⟩
  have HA4 := Lib.hid (HB3.out.trans (hb.mono HB3.out.size))
  replace HT1 := Lib.hid (HT1.out.below hb hsz1)
  replace hsz1 := Nat.lt_of_lt_of_le hsz1 hb.size
  replace HT2 := Lib.hid (HT2.out.below hb hsz2)
  replace hsz2 := Nat.lt_of_lt_of_le hsz2 hb.size
  replace HT3 := Lib.hid (HT3.out.below hb hsz3)
  replace hsz3 := Nat.lt_of_lt_of_le hsz3 hb.size
  clear hb
  have HT4 := Lib.hid (Tok.of_alloc #[.int .i64 3, .string ⟨#[]⟩, .string ⟨#[32, 97]⟩, .slice none 0 0, .bool false] 35 w4)
  have HB4 := Lib.hid (HA4.out.alloc HA4.out.size (.cells #[.int .i64 3, .string ⟨#[]⟩, .string ⟨#[32, 97]⟩, .slice none 0 0, .bool false] 35))
  have hb : Below w4.heap.size w4 (w4.alloc (.cells #[.int .i64 3, .string ⟨#[]⟩, .string ⟨#[32, 97]⟩, .slice none 0 0, .bool false] 35)) := Below.alloc (Below.refl _ _) (Nat.le_refl _) _
  replace HT1 := Lib.hid (HT1.out.below hb hsz1)
  replace hsz1 := Nat.lt_of_lt_of_le hsz1 hb.size
  replace HT2 := Lib.hid (HT2.out.below hb hsz2)
  replace hsz2 := Nat.lt_of_lt_of_le hsz2 hb.size
  replace HT3 := Lib.hid (HT3.out.below hb hsz3)
  replace hsz3 := Nat.lt_of_lt_of_le hsz3 hb.size
  have hsz4 : w4.heap.size < (w4.alloc (.cells #[.int .i64 3, .string ⟨#[]⟩, .string ⟨#[32, 97]⟩, .slice none 0 0, .bool false] 35)).heap.size := by simp
  clear hb HA4
  have q1 : (w4.alloc (.cells #[.int .i64 3, .string ⟨#[]⟩, .string ⟨#[32, 97]⟩, .slice none 0 0, .bool false] 35)).cell? ⟨w1.heap.size, 2, none⟩ = some (.string ⟨#[97]⟩) := HT1.out.cell 2 (by decide)
  have q2 : (w4.alloc (.cells #[.int .i64 3, .string ⟨#[]⟩, .string ⟨#[32, 97]⟩, .slice none 0 0, .bool false] 35)).cell? ⟨w2.heap.size, 2, none⟩ = some (.string ⟨#[]⟩) := HT2.out.cell 2 (by decide)
  have q3 : (w4.alloc (.cells #[.int .i64 3, .string ⟨#[]⟩, .string ⟨#[32, 97]⟩, .slice none 0 0, .bool false] 35)).cell? ⟨w3.heap.size, 2, none⟩ = some (.string ⟨#[63, 120]⟩) := HT3.out.cell 2 (by decide)
  have q4 : (w4.alloc (.cells #[.int .i64 3, .string ⟨#[]⟩, .string ⟨#[32, 97]⟩, .slice none 0 0, .bool false] 35)).cell? ⟨w4.heap.size, 2, none⟩ = some (.string ⟨#[32, 97]⟩) := HT4.out.cell 2 (by decide)
  have q0 : (w4.alloc (.cells #[.int .i64 3, .string ⟨#[]⟩, .string ⟨#[32, 97]⟩, .slice none 0 0, .bool false] 35)).cell? ⟨w1.heap.size, 0, none⟩ = some (.int .i64 3) := HT1.out.cell 0 (by decide)
  go_wp2_with fail
  refine (comment_Begins.calls _ _ _ _ awc5).mono ?_
  rintro e w5 ⟨rfl, hb⟩
  go_wp2_with fail
  go_ret
  exact ⟨rfl, HB4.out.trans (hb.mono HB4.out.size)⟩
def flaillaw10_awake.f : Option Bool := some true
theorem flaillaw10_awake.calls (r : Bool) (w : World) (hGl : Glob w) (h : flaillaw10_awake.f = some r) :
    Calls Tryd.prog 36 #[] w fun e w' => e = .returned (.bool r) ∧ Below w.heap.size w w' := by
  obtain rfl := Option.some.inj h
  exact awake10_any w hGl
end Go.Proofs.YtppaobgccdlccaaDoor.Hand
