/-
  Texts that several claims of this seat share, merged by a program of this session (6).
-/
import Derived.RegionTactic
import Derived.ChangeAlike
import Derived.Deep.RegionHeld3
import Derived.Test.YtbdcghbafopjjaaGreatDoorProg
import Derived.Below
import Derived.Deep.Draws
import Derived.Deep.AppendLies
import Derived.Maps.AppendAt
import Derived.OwnWalk
import Derived.Laws.BytesArg
import Derived.Laws.MakeOwn
import Derived.Laws.OwnMore
import Derived.Deep.OwnRows
import Derived.Tactics
import Derived.Lib.ConvBytes
import Derived.Laws.Slices
import Derived.WalkKit
import Derived.KernelRfl
import Derived.RowKit3
import Derived.Deep.LoopGhost
import Derived.Deep.QuietTactic
import Derived.BigQuiet
import Derived.WideLaws
import Derived.Deep.DeepCutAuto
import Derived.Deep.CutBlock
import Derived.Laws.Rows
import Derived.Lib.AppendStr
import Derived.ArgAppend
import Derived.Laws.IdiomCopy
import Derived.OrdersHeld
import Derived.Laws.BitsLemmas
import Derived.RowKit
import Derived.JoinedOf
import Derived.SevenTiedAt
import Derived.Test.YtbdcghbafopjjaaGreatDoorRows
import Derived.Test.YtbdcghbafopjjaaGreatDoorCards
import Derived.ProofKit
import Derived.Handed
import Derived.SizedLaws
import Derived.LaidMore
import Derived.Lay
import Derived.LaidLaws
import Derived.ChangeBears2
import Derived.MakeChecks
import Derived.Shelf.Vars
import Derived.Stop.Joined
import Derived.Test.YtbdcghbafopjjaaGreatDoorZqe
section
namespace Go.Proofs.YtbdcghbafopjjaaGreatDoor.Hand
open Go Go.RowKit Go.Proofs.YtbdcghbafopjjaaGreatDoor.K0 Go.Proofs.YtbdcghbafopjjaaGreatDoor.Pl Go.Proofs.YtbdcghbafopjjaaGreatDoor.Pb Go.Proofs.YtbdcghbafopjjaaGreatDoor.Sa Go.Proofs.YtbdcghbafopjjaaGreatDoor.Pure Go.Proofs.YtbdcghbafopjjaaGreatDoorW.PrintWords Go.Proofs.YtbdcghbafopjjaaGreatDoorW.PrintLast Go.Proofs.YtbdcghbafopjjaaGreatDoorW.PrintMore
abbrev tkK := k28
theorem infoK : (Tryz.prog.info? 28).map (fun i => (i.zero, i.size, i.bytes)) = some (some (.agg #[(.int .i64 0), (.string ⟨#[]⟩), (.string ⟨#[]⟩), (.slice none 0 0), (.bool false)]), 5, 72) := by kernel_rfl
def jn (l : List Tk) (i : Nat) : List Tk := (l.take i).foldl stepJ []
theorem jn_succ {l : List Tk} {i : Nat} (h : i < l.length) : jn l (i + 1) = stepJ (jn l i) l[i] := by
  unfold jn; rw [List.take_succ_eq_append_getElem h, List.foldl_append]; rfl
theorem stepJ_len (o : List Tk) (t : Tk) : (stepJ o t).length ≤ o.length + 1 := by
  cases ht : isTx t with
  | false => rw [stepJ_no o ht]; simp
  | true =>
    obtain ⟨s, rfl⟩ : ∃ s, t = .text s := by cases t <;> first | exact ⟨_, rfl⟩ | cases ht
    by_cases hs : s = []
    · subst hs; rw [stepJ_nil]; omega
    · by_cases hu : ∃ u, o.getLast? = some (.text u)
      · obtain ⟨u, hu⟩ := hu
        have : o = o.dropLast ++ [.text u] := by
          rcases List.eq_nil_or_concat o with rfl | ⟨q, b, rfl⟩
          · cases hu
          · simp at hu; subst hu; simp
        rw [this, stepJ_tt _ hs]; simp
      · rw [stepJ_new o hs (fun u h => hu ⟨u, h⟩)]; simp
theorem jn_len (l : List Tk) (i : Nat) : (jn l i).length ≤ i := by
  have : ∀ (q o : List Tk), (q.foldl stepJ o).length ≤ o.length + q.length := fun q => by
    induction q with
    | nil => intro o; exact Nat.le_refl _
    | cons t r ih => intro o; rw [List.foldl_cons]; have h1 := ih (stepJ o t); have h2 := stepJ_len o t; rw [List.length_cons]; omega
  have h := this (l.take i) []
  rw [List.length_take, List.length_nil] at h
  unfold jn; omega
theorem stepJ_bd {o : List Tk} {t : Tk} {a b : Nat} (ho : ∀ x ∈ o, txB x ≤ a) (ht : txB t ≤ b) : ∀ x ∈ stepJ o t, txB x ≤ a + b := by
  cases hx : isTx t with
  | false =>
    rw [stepJ_no o hx]
    intro x h
    rcases List.mem_append.1 h with h | h
    · have := ho x h; omega
    · rw [List.mem_singleton.1 h]; omega
  | true =>
    obtain ⟨s, rfl⟩ : ∃ s, t = .text s := by cases t <;> first | exact ⟨_, rfl⟩ | cases hx
    by_cases hs : s = []
    · subst hs; rw [stepJ_nil]; intro x h; have := ho x h; omega
    · by_cases hu : ∃ u, o.getLast? = some (.text u)
      · obtain ⟨u, hu⟩ := hu
        obtain ⟨q, rfl⟩ : ∃ q, o = q ++ [.text u] := by
          rcases List.eq_nil_or_concat o with rfl | ⟨q, b, rfl⟩
          · cases hu
          · simp at hu; subst hu; exact ⟨q, by simp⟩
        rw [stepJ_tt _ hs]
        intro x h
        rcases List.mem_append.1 h with h | h
        · have := ho x (List.mem_append_left _ h); omega
        · rw [List.mem_singleton.1 h]
          have h1 := ho (.text u) (by simp)
          have e1 : txB (.text u) = u.length := rfl
          have e2 : txB (.text s) = s.length := rfl
          have e3 : txB (.text (u ++ s)) = u.length + s.length := List.length_append
          omega
      · rw [stepJ_new o hs (fun u h => hu ⟨u, h⟩)]
        intro x h
        rcases List.mem_append.1 h with h | h
        · have := ho x h; omega
        · rw [List.mem_singleton.1 h]; omega
theorem jn_bd {l : List Tk} {M : Nat} (h : ∀ t ∈ l, txB t ≤ M) : ∀ i, i ≤ l.length → ∀ x ∈ jn l i, txB x ≤ i * M := by
  intro i
  induction i with
  | zero => intro _ x hx; simp [jn] at hx
  | succ i ih =>
    intro hi
    rw [jn_succ (by omega), Nat.succ_mul]
    exact stepJ_bd (ih (by omega)) (h _ (List.getElem_mem _))
structure JnI (lo : Nat) (w W : World) (A : Option Addr) (n c : Nat) (l : List Tk) (v : Value) (X : List Tk) : Prop where
  row : Kd.N tkK 28 W w.heap.size (fun k => lo ≤ k) v (X.map ofK)
  arg : Kd.V tkK 28 W w.heap.size (fun k => lo ≤ k ∧ k < w.heap.size) (.slice A n c) (l.map ofK)
  low : lo ≤ w.heap.size
  below : Below w.heap.size w W
theorem JnI.alloc {lo : Nat} {w W : World} {A : Option Addr} {n c : Nat} {l : List Tk} {v : Value} {X : List Tk} (h : JnI lo w W A n c l v X) (o : Obj) : JnI lo w (W.alloc o) A n c l v X :=
  ⟨Kd.N_alloc h.row o, Kd.V_alloc h.arg o, h.low, below_alloc h.below o⟩
theorem JnI.lowW {lo : Nat} {w W : World} {A : Option Addr} {n c : Nat} {l : List Tk} {v : Value} {X : List Tk} (h : JnI lo w W A n c l v X) : lo ≤ W.heap.size := Nat.le_trans h.low h.below.size
theorem JnI.grown {lo : Nat} {w W w1 : World} {A : Option Addr} {n c : Nat} {l : List Tk} {v v1 : Value} {X X1 : List Tk} (h : JnI lo w W A n c l v X) (ho : Kd.N tkK 28 w1 w.heap.size (fun k => lo ≤ k) v1 (X1.map ofK)) (hb : Below w.heap.size w w1) (hg : W.grownBy w1 v.ownBlock) :
    JnI lo w w1 A n c l v1 X1 :=
  ⟨ho, Kd.V_grown h.arg hg (fun k hk he => by have := Kd.N_base h.row k he.symm; have := hk.2; omega), h.low, hb⟩
theorem JnI.drew {lo : Nat} {w W : World} {A : Option Addr} {n c : Nat} {l : List Tk} {v : Value} {X : List Tk} (h : JnI lo w W A n c l v X) : JnI lo w W.drew A n c l v X :=
  ⟨Kd.N_drew h.row, Kd.V_drew h.arg, h.low, below_drew h.below⟩
theorem JnI.elem {lo : Nat} {w W : World} {A : Option Addr} {n c : Nat} {l : List Tk} {v : Value} {X : List Tk} (h : JnI lo w W A n c l v X) {i : Nat} (hi : i < l.length) :
    ∃ ad A3 c3, A = some ad ∧ W.cell? (ad.add (i * 5)) = some (.int .i64 (ofK l[i]).f0) ∧ W.cell? ⟨(ad.add (i * 5)).block, (ad.add (i * 5)).off + 1, none⟩ = some (.string (ofK l[i]).f1) ∧
      W.cell? ⟨(ad.add (i * 5)).block, (ad.add (i * 5)).off + 2, none⟩ = some (.string (ofK l[i]).f2) ∧ W.cell? ⟨(ad.add (i * 5)).block, (ad.add (i * 5)).off + 3, none⟩ = some (.slice A3 (ofK l[i]).f3.length c3) ∧
      W.cell? ⟨(ad.add (i * 5)).block, (ad.add (i * 5)).off + 4, none⟩ = some (.bool (ofK l[i]).f4) ∧ (ofK l[i]).f3.length ≤ c3 ∧ Kd.F k65 W (fun k => lo ≤ k ∧ k < w.heap.size) A3 (ofK l[i]).f3.length (ofK l[i]).f3 := by
  have hn := (Kd.V_at h.arg).1
  rw [List.length_map] at hn
  obtain ⟨ad, _, _, e, _⟩ := at_T28 (Kd.V_reads' h.arg).2.2 (i : Int) (by omega) (by rw [List.length_map]; omega)
  subst e
  obtain ⟨cs, hcl, hF, hcc⟩ := Kd.V_get h.arg z28 (i : Int) (by omega) (by omega)
  have hr : (l.map ofK).getD (i : Int).toNat z28 = ofK l[i] := rd_map hi
  rw [hr] at hF
  obtain ⟨A3, c3, rfl, h3, h4⟩ := k28_openF hF
  exact ⟨ad, A3, c3, rfl, hcc 0 _ rfl, by rw [← add_field _ _ 1 (by omega)]; exact hcc 1 _ rfl, by rw [← add_field _ _ 2 (by omega)]; exact hcc 2 _ rfl, by rw [← add_field _ _ 3 (by omega)]; exact hcc 3 _ rfl, by rw [← add_field _ _ 4 (by omega)]; exact hcc 4 _ rfl, h3, h4⟩
theorem alloc_sz (w : World) (o : Obj) : (w.alloc o).heap.size = w.heap.size + 1 := by simp
theorem wrap_pred {m : Nat} (h : m ≤ 100000) : IntKind.i64.wrap ((m : Int) - 1) = (m : Int) - 1 := by simp [IntKind.wrap_i64]; omega
set_option maxRecDepth 100000 in
set_option maxHeartbeats 16000000 in
theorem join_c (A : Option Addr) (c : Nat) (l : List Tk) (w : World) (lo : Nat) (hlo : lo ≤ w.heap.size) (hv : Kd.V tkK 28 w w.heap.size (fun k => lo ≤ k ∧ k < w.heap.size) (.slice A l.length c) (l.map ofK)) (hm : l.length ≤ 100000) (hB : ∀ t ∈ l, txB t ≤ 1000000) :
    Calls Tryz.prog 15 #[.slice A l.length c] w fun e w' => (∃ v, e = .returned v ∧ Kd.V tkK 28 w' w.heap.size (fun k => lo ≤ k ∧ k < w'.heap.size) v ((joinL l).map ofK)) ∧ Below w.heap.size w w' := by
  have JS := Lib.hid (fun i (h : i < l.length) => jn_succ h)
  have JL := Lib.hid (jn_len l)
  have JB := Lib.hid (jn_bd hB)
  have HE : Hid (jn l l.length = joinL l) := Lib.hid (by unfold jn; rw [List.take_length, join_eq])
  have HBB := Lib.hid hB
  have H0 : Hid (JnI lo w w A l.length c l (.slice none 0 0) (jn l 0)) := Lib.hid ⟨Kd.N_nil _ _ _ _ _, hv, hlo, Below.refl _ _⟩
  obtain ⟨n, hn⟩ : ∃ n, l.length = n := ⟨_, rfl⟩
  have HN := Lib.hid hn
  rw [hn] at H0 HE ⊢
  have HM : Hid (n ≤ 100000) := Lib.hid (by omega)
  clear hv hB hm hn hlo
  go_enter Tryz.func15, Tryz.ntmps15
  go_wp2_with fail
  go_loopw [3, 9] (fun v3 v9 wx => ∃ i : Nat, v9 = .int .i64 (i : Int) ∧ i ≤ n ∧ Hid (JnI lo w wx A n c l v3 (jn l i))) (fun _ v9 _ => n - (intOf v9).toNat)
  case atStart => exact ⟨0, rfl, Nat.zero_le _, H0⟩
  case round =>
    clear H0
    obtain ⟨i, rfl, hi, HI⟩ := hrel
    by_cases hlt : i < n
    · have hll : i < l.length := by rw [HN.out]; exact hlt
      have q1 : decide ((i : Int) < (n : Int)) = true := decide_eq_true (by omega)
      have i0 : (0 : Int) ≤ (i : Int) := by omega
      have i1 : (i : Int) < (n : Int) := by omega
      have w3 : IntKind.i64.wrap ((i : Int) + 1) = ((i + 1 : Nat) : Int) := wrap_add2 (x := i) (y := 1) rfl (by have := HM.out; omega)
      obtain ⟨ad, A3, c3, hA, hx0, hx1, hx2, hx3, hx4, h3, hF⟩ := HI.out.elem hll
      subst hA
      have HS := Lib.hid (JS.out i hll)
      have HEL : Hid (∃ t, t = l[i] ∧ ofK t = ofK l[i]) := Lib.hid ⟨_, rfl, rfl⟩
      obtain ⟨t, ht⟩ : ∃ t, l[i] = t := ⟨_, rfl⟩
      have HTB : Hid (txB t ≤ 1000000) := Lib.hid (by rw [← ht]; exact HBB.out _ (List.getElem_mem _))
      rw [ht] at hx0 hx1 hx2 hx3 hx4 h3 hF HS
      obtain ⟨A1, c1, hv3⟩ := Kd.N_slice HI.out.row
      have hml := jn_len l i
      rw [List.length_map] at hv3
      obtain ⟨m, hm⟩ : ∃ m, (jn l i).length = m := ⟨_, rfl⟩
      rw [hm] at hv3 hml
      subst hv3
      have HML := Lib.hid hm
      have hm6 : m ≤ 100000 := by have := HM.out; omega
      have HLN : Hid ((((jn l i).map ofK).length + 1) * 72 ≤ 140737488355328) := Lib.hid (by rw [List.length_map, hm]; omega)
      have hwl := wrap_pred hm6
      obtain ⟨⟨k0, n0, x0, a0, s0⟩, hO⟩ : ∃ O, ofK t = O := ⟨_, rfl⟩
      have HO := Lib.hid hO
      rw [hO] at hx0 hx1 hx2 hx3 hx4 h3 hF
      dsimp only at hx0 hx1 hx2 hx3 hx4 h3 hF
      have HP : Hid (∀ o : Obj, Kd.FK tkK (wr.alloc o) (fun k => lo ≤ k ∧ some k ≠ (Value.slice A1 m c1).ownBlock) (⟨k0, n0, x0, a0, s0⟩ : TkS) [.int .i64 k0, .string n0, .string x0, .slice A3 a0.length c3, .bool s0]) := Lib.hid (fun o => k28_mkF _ _ (⟨k0, n0, x0, a0, s0⟩ : TkS) h3 (Kd.F_mono (Kd.F_alloc hF o) (fun k hk => ⟨hk.1, fun he => by have := Kd.N_base HI.out.row k he.symm; have := hk.2; omega⟩)))
      obtain ⟨o, ho⟩ : ∃ o, Obj.cells #[.int .i64 k0, .string n0, .string x0, .slice A3 a0.length c3, .bool s0] 28 = o := ⟨_, rfl⟩
      have HO2 := Lib.hid ho
      have y0 : (wr.alloc (.cells #[.int .i64 k0, .string n0, .string x0, .slice A3 a0.length c3, .bool s0] 28)).cell? ⟨wr.heap.size, 0, none⟩ = some (.int .i64 k0) := (World.cell?_alloc_at _ _ _ 0 rfl).trans rfl
      have y2 : (wr.alloc (.cells #[.int .i64 k0, .string n0, .string x0, .slice A3 a0.length c3, .bool s0] 28)).cell? ⟨wr.heap.size, 2, none⟩ = some (.string x0) := (World.cell?_alloc_at _ _ _ 2 rfl).trans rfl
      clear ht hm hml HEL ho hO h3 hF
      cases hx : isTx t with
      | false =>
        have e0 : (k0 == 0) = false := by
          have : (ofK t).f0 = k0 := by rw [HO.out]
          rw [← this, beq_eq_false_iff_ne]
          cases t <;> first | exact (show (1 : Int) ≠ 0 by decide) | exact (show (2 : Int) ≠ 0 by decide) | exact (show (3 : Int) ≠ 0 by decide) | exact (show (4 : Int) ≠ 0 by decide) | cases hx
        have HR : Hid (jn l (i + 1) = jn l i ++ [t]) := Lib.hid (by rw [HS.out, stepJ_no _ hx])
        clear hx
        go_wp2_with (first | ((with_reducible refine gate_builtin (b := .append) (xs := #[.tmp 16, .tmp 18]) rfl ?_); at_builtin; refine Kd.N_append tkK (w0 := w) w.heap.size rfl (.tmp 16) (.tmp 18) 24 28 (.agg #[(.int .i64 0), (.string ⟨#[]⟩), (.string ⟨#[]⟩), (.slice none 0 0), (.bool false)]) 72 rfl Tryz.underlying24 infoK rfl (by decide) (by decide) (.slice A1 m c1) ((jn l i).map ofK) ⟨k0, n0, x0, a0, s0⟩ [.int .i64 k0, .string n0, .string x0, .slice A3 a0.length c3, .bool s0] (fun k => lo ≤ k) (fun k => lo ≤ k ∧ some k ≠ (Value.slice A1 m c1).ownBlock) rfl (by rw [alloc_sz]; rfl) ?aP (fun _ hk => hk) (fun _ hk => Nat.le_trans (HI.out.alloc _).lowW hk) ?aO ?aB ?aS ?aL ?_; (case aP => exact HP.out _); (case aO => exact (HI.out.alloc _).row); (case aB => exact (HI.out.alloc _).below); (case aS => exact (HI.out.alloc _).below.size); (case aL => exact HLN.out); intro v1 w1 ho hb hg hat))
        go_roundw
        case rel =>
          exact ⟨i + 1, by go_num, by omega, Lib.hid (by rw [HR.out]; exact (HI.out.alloc _).grown (by rw [List.map_append, List.map_singleton, HO.out]; exact ho) hb hg)⟩
        case measure => simp [intOf]; omega
      | true =>
        obtain ⟨s, rfl⟩ : ∃ s, t = .text s := by cases t <;> first | exact ⟨_, rfl⟩ | cases hx
        have hk0 : k0 = 0 := by
          have : (ofK (Tk.text s)).f0 = k0 := by rw [HO.out]
          exact this.symm
        have hx0' : x0 = B s := by
          have : (ofK (Tk.text s)).f2 = x0 := by rw [HO.out]
          exact this.symm
        have e0 : (k0 == 0) = true := by rw [hk0]; rfl
        have hxl : x0.toList = s := by rw [hx0', toList_data, B_data]
        by_cases hs : s = []
        · have xe1 : (x0.toList == ([] : List UInt8)) = true := by rw [hxl, hs]; rfl
          have xe2 : x0.toList.isEmpty = true := by rw [hxl, hs]; rfl
          have HR : Hid (jn l (i + 1) = jn l i) := Lib.hid (by rw [HS.out, hs, stepJ_nil])
          clear hx hk0 hx0' hxl hs
          go_wp2_with fail
          go_roundw
          case rel => exact ⟨i + 1, by go_num, by omega, Lib.hid (by rw [HR.out]; exact HI.out.alloc _)⟩
          case measure => simp [intOf]; omega
        · have xe1 : (x0.toList == ([] : List UInt8)) = false := by rw [hxl, beq_eq_false_iff_ne]; exact hs
          have xe2 : x0.toList.isEmpty = false := by rw [hxl]; exact List.isEmpty_eq_false_iff.2 hs
          rcases Nat.eq_zero_or_pos m with hm0 | hmp
          · have hw0 : IntKind.i64.wrap ((m : Int) - 1) = -1 := by rw [hwl, hm0]; rfl
            have HR : Hid (jn l (i + 1) = jn l i ++ [.text s]) := Lib.hid (by
              have : jn l i = [] := List.eq_nil_of_length_eq_zero (by rw [HML.out, hm0])
              rw [HS.out, stepJ_new _ hs (fun u => by rw [this]; simp)])
            clear hx hk0 hx0' hxl hs hwl hm0
            go_wp2_with (first | ((with_reducible refine gate_builtin (b := .append) (xs := #[.tmp 16, .tmp 18]) rfl ?_); at_builtin; refine Kd.N_append tkK (w0 := w) w.heap.size rfl (.tmp 16) (.tmp 18) 24 28 (.agg #[(.int .i64 0), (.string ⟨#[]⟩), (.string ⟨#[]⟩), (.slice none 0 0), (.bool false)]) 72 rfl Tryz.underlying24 infoK rfl (by decide) (by decide) (.slice A1 m c1) ((jn l i).map ofK) ⟨k0, n0, x0, a0, s0⟩ [.int .i64 k0, .string n0, .string x0, .slice A3 a0.length c3, .bool s0] (fun k => lo ≤ k) (fun k => lo ≤ k ∧ some k ≠ (Value.slice A1 m c1).ownBlock) rfl (by rw [alloc_sz]; rfl) ?aP (fun _ hk => hk) (fun _ hk => Nat.le_trans (HI.out.alloc _).lowW hk) ?aO ?aB ?aS ?aL ?_; (case aP => exact HP.out _); (case aO => exact (HI.out.alloc _).row); (case aB => exact (HI.out.alloc _).below); (case aS => exact (HI.out.alloc _).below.size); (case aL => exact HLN.out); intro v1 w1 ho hb hg hat))
            go_roundw
            case rel =>
              exact ⟨i + 1, by go_num, by omega, Lib.hid (by rw [HR.out]; exact (HI.out.alloc _).grown (by rw [List.map_append, List.map_singleton, HO.out]; exact ho) hb hg)⟩
            case measure => simp [intOf]; omega
          · obtain ⟨m1, hm1⟩ : ∃ m1, m = m1 + 1 := ⟨m - 1, by omega⟩
            have hw0 : IntKind.i64.wrap ((m : Int) - 1) = (m1 : Int) := by rw [hwl, hm1]; omega
            have hml1 : m1 < (jn l i).length := by rw [HML.out]; omega
            obtain ⟨g, cap, hv4, hg1, hg2, _⟩ := Kd.N_form HI.out.row (by rw [List.length_map]; omega)
            obtain ⟨rfl, rfl⟩ : A1 = some ⟨g, 0, none⟩ ∧ c1 = cap := by injection hv4 with h1 h2 h3; exact ⟨h1, h3⟩
            have HW := Lib.hid (HI.out.alloc (.cells #[.int .i64 k0, .string n0, .string x0, .slice A3 a0.length c3, .bool s0] 28))
            obtain ⟨cs, hcl, hcF, hcc, hcf⟩ := Kd.N_elem HW.out.row z28 (m1 : Int) (by omega) (by clear hw0; omega)
            obtain ⟨u, hu⟩ : ∃ u, (jn l i)[m1] = u := ⟨_, rfl⟩
            have hgd : ((jn l i).map ofK).getD (m1 : Int).toNat z28 = ofK u := by rw [← hu]; exact rd_map hml1
            rw [hgd] at hcF
            obtain ⟨⟨k1, n1, x1, a1, s1⟩, hU⟩ : ∃ O, ofK u = O := ⟨_, rfl⟩
            rw [hU] at hcF
            obtain ⟨A5, c5, rfl, h5, hF5⟩ := k28_openF hcF
            dsimp only at h5 hF5 hcc
            have z0 : (wr.alloc (.cells #[.int .i64 k0, .string n0, .string x0, .slice A3 a0.length c3, .bool s0] 28)).cell? ⟨g, m1 * 5, none⟩ = some (.int .i64 k1) := hcc 0 _ rfl
            have z2 : (wr.alloc (.cells #[.int .i64 k0, .string n0, .string x0, .slice A3 a0.length c3, .bool s0] 28)).cell? ⟨g, m1 * 5 + 2, none⟩ = some (.string x1) := hcc 2 _ rfl
            have zf : (wr.alloc (.cells #[.int .i64 k0, .string n0, .string x0, .slice A3 a0.length c3, .bool s0] 28)).frozen? ⟨g, m1 * 5 + 2, none⟩ = false := hcf 2
            have j0 : (0 : Int) ≤ (m1 : Int) := by omega
            have j1 : (m1 : Int) < (m : Int) := by omega
            have hlast : jn l i = (jn l i).take m1 ++ [u] := by
              rw [← hu, ← List.take_succ_eq_append_getElem hml1, List.take_of_length_le (by have := HML.out; omega)]
            cases hxu : isTx u with
            | false =>
              have e1 : (k1 == 0) = false := by
                have : (ofK u).f0 = k1 := by rw [hU]
                rw [← this, beq_eq_false_iff_ne]
                cases u <;> first | exact (show (1 : Int) ≠ 0 by decide) | exact (show (2 : Int) ≠ 0 by decide) | exact (show (3 : Int) ≠ 0 by decide) | exact (show (4 : Int) ≠ 0 by decide) | cases hxu
              have HR : Hid (jn l (i + 1) = jn l i ++ [.text s]) := Lib.hid (by
                rw [HS.out, stepJ_new _ hs (fun v hv => by
                  rw [hlast, List.getLast?_append] at hv
                  simp at hv
                  rw [hv] at hxu; cases hxu)])
              clear hx hk0 hx0' hxl hs hwl hm1 hml1 hv4 hg1 hg2 hcl hgd hcF hu h5 hF5 hcc hcf hlast hxu hU zf
              go_wp2_with (first | ((with_reducible refine gate_builtin (b := .append) (xs := #[.tmp 16, .tmp 18]) rfl ?_); at_builtin; refine Kd.N_append tkK (w0 := w) w.heap.size rfl (.tmp 16) (.tmp 18) 24 28 (.agg #[(.int .i64 0), (.string ⟨#[]⟩), (.string ⟨#[]⟩), (.slice none 0 0), (.bool false)]) 72 rfl Tryz.underlying24 infoK rfl (by decide) (by decide) (.slice (some ⟨g, 0, none⟩) m c1) ((jn l i).map ofK) ⟨k0, n0, x0, a0, s0⟩ [.int .i64 k0, .string n0, .string x0, .slice A3 a0.length c3, .bool s0] (fun k => lo ≤ k) (fun k => lo ≤ k ∧ some k ≠ (Value.slice (some ⟨g, 0, none⟩) m c1).ownBlock) rfl (by rw [alloc_sz]; rfl) ?aP (fun _ hk => hk) (fun _ hk => Nat.le_trans (HI.out.alloc _).lowW hk) ?aO ?aB ?aS ?aL ?_; (case aP => exact HP.out _); (case aO => exact (HI.out.alloc _).row); (case aB => exact (HI.out.alloc _).below); (case aS => exact (HI.out.alloc _).below.size); (case aL => exact HLN.out); intro v1 w1 ho hb hg hat))
              go_roundw
              case rel =>
                exact ⟨i + 1, by go_num, by omega, Lib.hid (by rw [HR.out]; exact (HI.out.alloc _).grown (by rw [List.map_append, List.map_singleton, HO.out]; exact ho) hb hg)⟩
              case measure => simp [intOf]; omega
            | true =>
              obtain ⟨v, rfl⟩ : ∃ v, u = .text v := by cases u <;> first | exact ⟨_, rfl⟩ | cases hxu
              have hk1 : k1 = 0 := by
                have : (ofK (Tk.text v)).f0 = k1 := by rw [hU]
                exact this.symm
              have hx1' : x1 = B v := by
                have : (ofK (Tk.text v)).f2 = x1 := by rw [hU]
                exact this.symm
              have e1 : (k1 == 0) = true := by rw [hk1]; rfl
              have hvb : v.length ≤ 100000000000 := by
                have h1 := JB.out i (by omega) (.text v) (by rw [← hu]; exact List.getElem_mem _)
                have h2 : txB (.text v) = v.length := rfl
                have := HM.out
                have h3 : i * 1000000 ≤ 100000 * 1000000 := Nat.mul_le_mul_right _ (by omega)
                omega
              have hsb : s.length ≤ 1000000 := HTB.out
              have g1 : x1.size + x0.size ≤ 9223372036854775807 := by rw [hx1', hx0', size_B, size_B]; omega
              have g2 : (9223372036854775807 < x1.size + x0.size) = False := eq_false (by omega)
              have HR : Hid ((jn l (i + 1)).map ofK = ((jn l i).map ofK).set m1 (ofK (.text (v ++ s)))) := Lib.hid (by
                rw [HS.out]
                have e : (jn l i).length = m1 + 1 := by rw [HML.out, hm1]
                have e2 : ((jn l i).take m1).length = m1 := by rw [List.length_take]; omega
                rw [hlast, stepJ_tt _ hs, List.map_append, List.map_append, List.set_append_right _ _ (by rw [List.length_map, e2]; exact Nat.le_refl _)]
                congr 1
                rw [List.length_map, e2, Nat.sub_self]; rfl)
              have HXT : Hid (ofK (.text (v ++ s)) = ⟨k1, n1, x1 ++ x0, a1, s1⟩) := Lib.hid (by
                have e : ofK (.text (v ++ s)) = ⟨(ofK (.text v)).f0, (ofK (.text v)).f1, (ofK (.text v)).f2 ++ B s, (ofK (.text v)).f3, (ofK (.text v)).f4⟩ := by
                  show (⟨0, B [], B (v ++ s), [], false⟩ : TkS) = ⟨0, B [], B v ++ B s, [], false⟩
                  rw [B_append]
                rw [e, hU, hx0'])
              obtain ⟨cs', hcl', hcF', hcc', _⟩ := Kd.N_elem HI.out.row z28 (m1 : Int) (by omega) (by clear hw0; omega)
              rw [hgd, hU] at hcF'
              obtain ⟨A6, c6, rfl, h6, hF6⟩ := k28_openF hcF'
              dsimp only at h6 hF6 hcc'
              have HSG := Lib.hid (Kd.N_seg HI.out.row (m1 : Int) (by omega) (by clear hw0; omega) (seg := [.string (x1 ++ x0)]) (j := 2) hcl' hcc' (show 2 + 1 ≤ 5 by decide) (x' := ⟨k1, n1, x1 ++ x0, a1, s1⟩) (okp := fun k => lo ≤ k ∧ k ≠ g) (k28_mkF _ _ (⟨k1, n1, x1 ++ x0, a1, s1⟩ : TkS) h6 hF6) (fun k hk => hk))
              have HG1 := Lib.hid hg1
              clear hcl' hcF' hcc' h6 hF6 hx hk0 hx0' hxl hs hwl hm1 hml1 hv4 hcl hgd hcF hu h5 hF5 hcc hcf hlast hxu hU hk1 hx1' hvb hsb
              go_wp2_with fail
              go_region
              all_goals (
                go_wp2_with fail
                go_roundw
                case rel =>
                  refine ⟨i + 1, by go_num, by omega, Lib.hid ?_⟩
                  obtain ⟨g3, g4⟩ := HSG.out
                  have hJ : JnI lo w (wr.setCell ⟨g, m1 * 5 + 2, none⟩ (.string (x1 ++ x0))) (some ad) n c l (.slice (some ⟨g, 0, none⟩) m c1) (jn l (i + 1)) :=
                    ⟨by rw [HR.out, HXT.out]; exact g3, Kd.V_grown HI.out.arg g4 (fun k hk he => by have := HG1.out; have := hk.2; injection he with he; omega), HI.out.low, HI.out.below.setCell HG1.out _⟩
                  exact (hJ.alloc _).drew
                case measure => simp [intOf]; omega)
    · have hin : i = n := by omega
      subst hin
      have q9 : decide ((i : Int) < (i : Int)) = false := decide_eq_false (by omega)
      go_wp2_with fail
      go_ret
      refine ⟨⟨_, rfl, ?_⟩, HI.out.below⟩
      rw [← HE.out]
      exact Kd.V_mono (Kd.V_bound (Kd.N_V HI.out.row)) (fun k hk => hk)
end Go.Proofs.YtbdcghbafopjjaaGreatDoor.Hand
end

section
namespace Go.Proofs.YtbdcghbafopjjaaGreatDoor.Hand
open Go Go.RowKit Go.Proofs.YtbdcghbafopjjaaGreatDoor.K0 Go.Proofs.YtbdcghbafopjjaaGreatDoor.Pl Go.Proofs.YtbdcghbafopjjaaGreatDoor.Pb Go.Proofs.YtbdcghbafopjjaaGreatDoor.Sa Go.Proofs.YtbdcghbafopjjaaGreatDoor.St Go.Proofs.YtbdcghbafopjjaaGreatDoor.Pure Go.Proofs.YtbdcghbafopjjaaGreatDoorW.PrintWords Go.Proofs.YtbdcghbafopjjaaGreatDoorW.PrintLast Go.Proofs.YtbdcghbafopjjaaGreatDoorW.PrintMore
theorem next_none {s : List UInt8} {p : Nat} (hs : s.length ≤ 100000) (hp : p ≤ s.length) {r : List UInt8} (h : tokL (s.drop p) = (none, r)) (W : World) (hG : Glob W) :
    Calls Tryz.prog 35 #[.string (B s), .int .i64 (p : Int)] W fun e w' => (∃ A c, e = .returned (.tuple #[.agg #[.int .i64 0, .string ⟨#[]⟩, .string ⟨#[]⟩, .slice A 0 c, .bool false], .int .i64 ((s.length - r.length : Nat) : Int), .bool false])) ∧ Below W.heap.size W w' := by
  have hf := next_f hs hp
  rw [h] at hf
  refine (tok_Next.calls _ _ _ _ _ _ _ _ _ W hG hf).mono ?_
  rintro e w' ⟨v, he, hR, hb⟩
  obtain ⟨A, c, rfl⟩ := Kd.R_slice hR
  exact ⟨⟨A, c, he⟩, hb⟩
theorem next_some {s : List UInt8} {p : Nat} (hs : s.length ≤ 100000) (hp : p ≤ s.length) {t : Tk} {r : List UInt8} (h : tokL (s.drop p) = (some t, r)) {k0 : Int} {n0 x0 : ByteArray} {a0 : List AtS} {s0 : Bool} (ht : ofK t = ⟨k0, n0, x0, a0, s0⟩) (W : World) (hG : Glob W) :
    Calls Tryz.prog 35 #[.string (B s), .int .i64 (p : Int)] W fun e w' => (∃ A c, e = .returned (.tuple #[.agg #[.int .i64 k0, .string n0, .string x0, .slice A a0.length c, .bool s0], .int .i64 ((s.length - r.length : Nat) : Int), .bool true]) ∧
      a0.length ≤ c ∧ Kd.F k65 w' (fun k => W.heap.size ≤ k) A a0.length a0) ∧ Below W.heap.size W w' := by
  have hf := next_f hs hp
  rw [h] at hf
  have e : tkOut s.length (some t, r) = ((ofK t).f0, (ofK t).f1, (ofK t).f2, (ofK t).f3, (ofK t).f4, ((s.length - r.length : Nat) : Int), true) := rfl
  rw [e, ht] at hf
  refine (tok_Next.calls _ _ _ _ _ _ _ _ _ W hG hf).mono ?_
  rintro e w' ⟨v, he, hR, hb⟩
  have hV := Kd.V_mono (Kd.R_V (base' := 0) (Kd.R_bound hR)) (ok' := fun k => W.heap.size ≤ k) (fun k hk => hk.2.1)
  obtain ⟨A, c, rfl⟩ := Kd.V_slice hV
  exact ⟨⟨A, c, he, (Kd.V_at hV).2.1, Kd.V_F hV⟩, hb⟩
theorem rest_c {s : List UInt8} {p : Nat} (name : List UInt8) {st : Nat} (hs : s.length ≤ 100000) (hp : p ≤ s.length) (hl : name.length ≤ 100000) (h4 : st ≤ 4) (W : World) (hG : Glob W) :
    Calls Tryz.prog 34 #[.string (B s), .int .i64 (p : Int), .int .i64 (st : Int), .string (B name)] W fun e w' => (∃ A c, e = .returned (.tuple #[.slice A (restL st name (s.drop p)).1.length c, .int .i64 ((s.length - (restL st name (s.drop p)).2.length : Nat) : Int)]) ∧
      Kd.F tkK w' (fun k => W.heap.size ≤ k) A (restL st name (s.drop p)).1.length ((restL st name (s.drop p)).1.map ofK)) ∧ Below W.heap.size W w' := by
  obtain ⟨k, hk⟩ := (rest_ev name hs hp hl h4).rounds
  refine (tok_Rest.calls k _ _ _ _ _ _ W hG hk).mono ?_
  rintro e w' ⟨v, he, hR, hb⟩
  have hV := Kd.V_mono (Kd.S_V (base' := 0) (Kd.S_bound hR)) (ok' := fun k => W.heap.size ≤ k) (fun k hk => hk.2.1)
  obtain ⟨A, c, rfl⟩ := Kd.V_slice hV
  have hF := Kd.V_F hV
  rw [List.length_map] at he hF
  exact ⟨⟨A, c, he, hF⟩, hb⟩
theorem stateN_le (n : List UInt8) : stateN n ≤ 4 := by
  unfold stateN
  repeat' split
  all_goals decide
structure DrI (w W : World) (v : Value) (X : List Tk) : Prop where
  glob : Glob W
  row : Kd.N tkK 28 W w.heap.size (fun k => w.heap.size ≤ k) v (X.map ofK)
  below : Below w.heap.size w W
theorem DrI.call {w W W' : World} {v : Value} {X : List Tk} (h : DrI w W v X) (hb : Below W.heap.size W W') : DrI w W' v X :=
  ⟨h.glob.step hb, Kd.N_below h.row hb, h.below.trans (hb.mono h.below.size)⟩
theorem DrI.alloc {w W : World} {v : Value} {X : List Tk} (h : DrI w W v X) (o : Obj) : DrI w (W.alloc o) v X := h.call (below_alloc (Below.refl _ _) o)
theorem DrI.drew {w W : World} {v : Value} {X : List Tk} (h : DrI w W v X) : DrI w W.drew v X := h.call (below_drew (Below.refl _ _))
theorem DrI.grown {w W' : World} {v1 : Value} {X1 : List Tk} (hG : Glob w) (ho : Kd.N tkK 28 W' w.heap.size (fun k => w.heap.size ≤ k) v1 (X1.map ofK)) (hb : Below w.heap.size w W') : DrI w W' v1 X1 :=
  ⟨hG.step hb, ho, hb⟩
abbrev DrC (w : World) (tb : Nat) (nm : ByteArray) (v : Value) (X : List Tk) (W : World) : Prop := DrI w W v X ∧ W.cell? ⟨tb, 1, none⟩ = some (.string nm)
theorem DrC.call {w : World} {tb : Nat} {nm : ByteArray} {v : Value} {X : List Tk} {W W' : World} (hb : Below W.heap.size W W') (h : DrC w tb nm v X W) : DrC w tb nm v X W' :=
  ⟨h.1.call hb, (hb.cell (World.block_lt_of_cell? W _ h.2)).trans h.2⟩
theorem DrC.drew {w : World} {tb : Nat} {nm : ByteArray} {v : Value} {X : List Tk} {W : World} (h : DrC w tb nm v X W) : DrC w tb nm v X W.drew := h.call (below_drew (Below.refl _ _))
set_option maxRecDepth 100000 in
set_option maxHeartbeats 16000000 in
theorem drive_c (s : List UInt8) (hs : s.length ≤ 30000) (w : World) (hGl : Glob w) :
    Calls Tryz.prog 40 #[.string (B s)] w fun e w' => (∃ v, e = .returned v ∧ Kd.V tkK 28 w' w.heap.size (fun k => w.heap.size ≤ k ∧ k < w'.heap.size) v ((driveL s).map ofK)) ∧ Below w.heap.size w w' := by
  have HG := Lib.hid hGl
  have HS := Lib.hid hs
  have NN := Lib.hid (fun p (hp : p ≤ s.length) r (h : tokL (s.drop p) = (none, r)) W hG => next_none (by omega) hp h W hG)
  have NS := Lib.hid (fun p (hp : p ≤ s.length) t r (h : tokL (s.drop p) = (some t, r)) k0 n0 x0 a0 s0 (ht : ofK t = ⟨k0, n0, x0, a0, s0⟩) W hG => next_some (by omega) hp h ht W hG)
  have RS := Lib.hid (fun p (hp : p ≤ s.length) name (hl : name.length ≤ 100000) st (h4 : st ≤ 4) W hG => rest_c name (by omega) hp hl h4 W hG)
  have JN := Lib.hid (fun A c (hb : (∀ t ∈ drvL s, txB t ≤ 1000000) ∧ (drvL s).length ≤ 100000) W (hw : w.heap.size ≤ W.heap.size) hv => join_c A c (drvL s) W w.heap.size hw hv hb.2 hb.1)
  have HBD : Hid ((∀ t ∈ drvL s, txB t ≤ 1000000) ∧ (drvL s).length ≤ 100000) := Lib.hid (by
    have := drv_bd s.length s (Nat.le_refl _)
    exact ⟨fun t ht => by have := this.1 t ht; omega, by omega⟩)
  have HD : Hid (driveL s = joinL (drvL s)) := Lib.hid rfl
  obtain ⟨a, ha⟩ : ∃ a, B s = a := ⟨_, rfl⟩
  have HSZ : Hid (a.size = s.length) := Lib.hid (by rw [← ha, size_B])
  rw [ha] at NN NS RS ⊢
  have H0 : Hid (DrI w w (.slice none 0 0) []) := Lib.hid ⟨hGl, Kd.N_nil _ _ _ _ _, Below.refl _ _⟩
  clear hs hGl ha
  go_enter Tryz.func40, Tryz.ntmps40
  go_wp2_with fail
  go_loopw [3, 4] (fun v3 v4 wx => ∃ (p : Nat) (X : List Tk), v4 = .int .i64 (p : Int) ∧ p ≤ a.size ∧ Hid (X.length ≤ 3 * p) ∧ Hid (DrI w wx v3 X) ∧ Hid (drvL s = X ++ drvL (s.drop p))) (fun _ v4 _ => a.size - (intOf v4).toNat)
  case atStart => exact ⟨0, [], rfl, Nat.zero_le _, Lib.hid (Nat.zero_le _), H0, Lib.hid rfl⟩
  case round =>
    clear H0
    obtain ⟨p, X, rfl, hp, HXL, HI, HQ⟩ := hrel
    by_cases hlt : p < a.size
    · have q1 : decide ((p : Int) < (a.size : Int)) = true := decide_eq_true (by omega)
      have hps : p ≤ s.length := by have := HSZ.out; omega
      have hne : s.drop p ≠ [] := by rw [Ne, List.drop_eq_nil_iff]; have := HSZ.out; omega
      have hdq := drvL_eq hne
      have hsf := tokL_suf (s.drop p)
      have hlt2 := tokL_lt hne
      have hbd := tok_bd (s.drop p)
      obtain ⟨⟨o, r⟩, hR⟩ : ∃ R, tokL (s.drop p) = R := ⟨_, rfl⟩
      rw [hR] at hdq hsf hlt2 hbd
      dsimp only at hsf hlt2 hbd
      have hrs : r <:+ s := hsf.trans (List.drop_suffix _ _)
      have hrl := hrs.length_le
      rw [List.length_drop] at hlt2
      obtain ⟨q, hq⟩ : ∃ q, s.length - r.length = q := ⟨_, rfl⟩
      have hqd : s.drop q = r := by rw [← hq]; exact suf_drop hrs
      have hq1 : p < q := by omega
      have hq2 : q ≤ a.size := by have := HSZ.out; omega
      obtain ⟨A1, c1, hv3⟩ := Kd.N_slice HI.out.row
      rw [List.length_map] at hv3
      have hxl := HXL.out
      obtain ⟨m, hm⟩ : ∃ m, X.length = m := ⟨_, rfl⟩
      rw [hm] at hv3 hxl
      subst hv3
      cases o with
      | none =>
        have N1 := Lib.hid (NN.out p hps r hR)
        rw [hq] at N1
        have HQ2 : Hid (drvL s = X ++ drvL (s.drop q)) := Lib.hid (by rw [HQ.out, hdq, hqd]; rfl)
        clear hdq hsf hlt2 hbd hrs hrl hq hqd hR hne hps hm hxl
        go_wp2_with fail
        refine (N1.out _ HI.out.glob).mono ?_
        rintro e w2 ⟨⟨A3, c3, rfl⟩, hb⟩
        replace HI := Lib.hid (HI.out.call hb)
        clear hb N1
        go_wp2_with fail
        go_roundw
        case rel => exact ⟨q, X, by go_num, hq2, Lib.hid (by have := HXL.out; omega), Lib.hid (HI.out.alloc _), HQ2⟩
        case measure => simp [intOf]; omega
      | some t =>
        obtain ⟨⟨k0, n0, x0, a0, s0⟩, hO⟩ : ∃ O, ofK t = O := ⟨_, rfl⟩
        have HO := Lib.hid hO
        have N1 := Lib.hid (NS.out p hps t r hR k0 n0 x0 a0 s0 hO)
        rw [hq] at N1
        have HLN : Hid (((X.map ofK).length + 1) * 72 ≤ 140737488355328) := Lib.hid (by rw [List.length_map, hm]; have := HS.out; have := HSZ.out; omega)
        by_cases hk : k0 = 1
        · have h0 : (ofK t).f0 = k0 := by rw [hO]
          obtain ⟨n, al, self, rfl⟩ : ∃ n al self, t = .start n al self := by
            rw [hk] at h0
            cases t with
            | start n al self => exact ⟨n, al, self, rfl⟩
            | text x => exact absurd (show (0 : Int) = 1 from h0) (by decide)
            | fin x => exact absurd (show (2 : Int) = 1 from h0) (by decide)
            | comment x => exact absurd (show (3 : Int) = 1 from h0) (by decide)
            | doctype x => exact absurd (show (4 : Int) = 1 from h0) (by decide)
          have hn0 : n0 = B n := by
            have : (ofK (Tk.start n al self)).f1 = n0 := by rw [hO]
            exact this.symm
          have hnl : n.length ≤ 100000 := by
            have h1 := (hbd _ rfl).2
            have h2 : nmB (Tk.start n al self) = n.length := rfl
            rw [List.length_drop] at h1
            have := HS.out
            omega
          have e1 : (k0 != 1) = false := by rw [hk]; rfl
          have hr2 := restL_suf (stateN n) n r
          have hr3 := (rest_bd (stateN n) n r).2
          have hr4 := hr2.length_le
          have hRT : ∀ (tb : Nat) (v1 : Value) (X1 : List Tk) W, DrC w tb n0 v1 X1 W → Calls Tryz.prog 34 #[.string a, .int .i64 (q : Int), .int .i64 ((stateN n : Nat) : Int), .string n0] W fun e w' => (∃ A c, e = .returned (.tuple #[.slice A (restL (stateN n) n r).1.length c, .int .i64 ((s.length - (restL (stateN n) n r).2.length : Nat) : Int)]) ∧
              Kd.F tkK w' (fun k => w.heap.size ≤ k ∧ some k ≠ v1.ownBlock) A (restL (stateN n) n r).1.length ((restL (stateN n) n r).1.map ofK)) ∧ Below W.heap.size W w' := fun tb v1 X1 W hD => by
            have h := RS.out q (by have := HSZ.out; omega) n hnl (stateN n) (stateN_le n) W hD.1.glob
            rw [hqd, ← hn0] at h
            refine h.mono ?_
            rintro e w' ⟨⟨A, c, he, hF⟩, hb⟩
            exact ⟨⟨A, c, he, Kd.F_mono hF (fun k hk => ⟨Nat.le_trans hD.1.below.size hk, fun he => by have := Kd.N_lt hD.1.row k he.symm; omega⟩)⟩, hb⟩
          have hST : ∀ W, Calls Tryz.prog 71 #[.string n0] W fun e w' => e = .returned (.int .i64 ((stateN n : Nat) : Int)) ∧ Below W.heap.size W w' := fun W => by
            rw [hn0]; exact state_c n (by omega) W
          have hdv : drv1 (some (Tk.start n al self), r) = (.start n al self :: (restL (stateN n) n r).1, (restL (stateN n) n r).2) := rfl
          have hrs2 : (restL (stateN n) n r).2 <:+ s := hr2.trans hrs
          obtain ⟨⟨R1, R2⟩, hRR⟩ : ∃ x, restL (stateN n) n r = x := ⟨_, rfl⟩
          rw [hRR] at hRT hdv hr3 hr4 hrs2
          dsimp only at hRT hdv hr3 hr4 hrs2
          obtain ⟨q2, hq2'⟩ : ∃ q, s.length - R2.length = q := ⟨_, rfl⟩
          have hqd2 : s.drop q2 = R2 := by rw [← hq2']; exact suf_drop hrs2
          have hq3 : q ≤ q2 := by omega
          have hq4 : q2 ≤ a.size := by have := HSZ.out; omega
          obtain ⟨stn, hstn⟩ : ∃ x, stateN n = x := ⟨_, rfl⟩
          rw [hstn] at hRT hST
          rw [hq2'] at hRT
          obtain ⟨m2, hm2⟩ : ∃ x, R1.length = x := ⟨_, rfl⟩
          rw [hm2] at hRT hr3
          obtain ⟨X1, hX1⟩ : ∃ x, X ++ [Tk.start n al self] = x := ⟨_, rfl⟩
          have HX1 := Lib.hid hX1
          have HX1L : Hid (X1.length ≤ 3 * p + 1) := Lib.hid (by rw [← hX1, List.length_append]; simp; omega)
          have HQ2 : Hid (drvL s = (X1 ++ R1) ++ drvL (s.drop q2)) := Lib.hid (by rw [HQ.out, hdq, hdv, hqd2, ← hX1]; simp)
          have RT := Lib.hid hRT
          have ST := Lib.hid hST
          have HM2 := Lib.hid hm2
          have HLN2 : Hid (((X1.map ofK).length + m2) * 72 ≤ 140737488355328) := Lib.hid (by rw [List.length_map]; have := HX1L.out; have := HS.out; have := HSZ.out; omega)
          clear hdq hsf hlt2 hbd hrs hrl hq hqd hR hne hps hm hxl hk hO h0 hn0 hnl hr2 hr4 hRT hST hdv hrs2 hRR hq2' hqd2 hstn hm2 hX1
          go_wp2_with fail
          refine (N1.out _ HI.out.glob).mono ?_
          rintro e w2 ⟨⟨A3, c3, rfl, h3, hF⟩, hb⟩
          have HP : Hid (∀ o : Obj, Kd.FK tkK (w2.alloc o) (fun k => w.heap.size ≤ k ∧ some k ≠ (Value.slice A1 m c1).ownBlock) (⟨k0, n0, x0, a0, s0⟩ : TkS) [.int .i64 k0, .string n0, .string x0, .slice A3 a0.length c3, .bool s0]) := Lib.hid (fun o => k28_mkF _ _ (⟨k0, n0, x0, a0, s0⟩ : TkS) h3 (Kd.F_mono (Kd.F_alloc hF o) (fun k hk => ⟨Nat.le_trans HI.out.below.size hk, fun he => by have := Kd.N_lt HI.out.row k he.symm; omega⟩)))
          replace HI := Lib.hid (HI.out.call hb)
          clear hb N1 h3 hF
          have HC0 : Hid (∀ w3, (w2.alloc (.cells #[.int .i64 k0, .string n0, .string x0, .slice A3 a0.length c3, .bool s0] 28)).grownBy w3 (Value.slice A1 m c1).ownBlock → w3.cell? ⟨w2.heap.size, 0, none⟩ = some (.int .i64 k0) ∧ w3.cell? ⟨w2.heap.size, 1, none⟩ = some (.string n0)) := Lib.hid (fun w3 hg => by
            have hne : some w2.heap.size ≠ (Value.slice A1 m c1).ownBlock := fun he => by have := Kd.N_lt HI.out.row _ he.symm; omega
            exact ⟨cell_grown hg ((World.cell?_alloc_at _ _ _ 0 rfl).trans rfl) hne, cell_grown hg ((World.cell?_alloc_at _ _ _ 1 rfl).trans rfl) hne⟩)
          go_wp2_with (first | ((with_reducible refine gate_builtin (b := .append) (xs := #[.tmp 23, .tmp 25]) rfl ?_); at_builtin; refine Kd.N_append tkK (w0 := w) w.heap.size rfl (.tmp 23) (.tmp 25) 24 28 (.agg #[(.int .i64 0), (.string ⟨#[]⟩), (.string ⟨#[]⟩), (.slice none 0 0), (.bool false)]) 72 rfl Tryz.underlying24 infoK rfl (by decide) (by decide) (.slice A1 m c1) (X.map ofK) ⟨k0, n0, x0, a0, s0⟩ [.int .i64 k0, .string n0, .string x0, .slice A3 a0.length c3, .bool s0] (fun k => w.heap.size ≤ k) (fun k => w.heap.size ≤ k ∧ some k ≠ (Value.slice A1 m c1).ownBlock) rfl (by rw [alloc_sz]; rfl) ?aP (fun _ hk => hk) (fun _ hk => Nat.le_trans (HI.out.alloc _).below.size hk) ?aO ?aB ?aS ?aL ?_; (case aP => exact HP.out _); (case aO => exact (HI.out.alloc _).row); (case aB => exact (HI.out.alloc _).below); (case aS => exact (HI.out.alloc _).below.size); (case aL => exact HLN.out); intro v1 w3 ho hb hg hat; obtain ⟨z0, z1⟩ := HC0.out _ hg; have HI3 : Hid (DrI w w3 v1 X1) := Lib.hid (DrI.grown HG.out (by rw [← HX1.out, List.map_append, List.map_singleton, HO.out]; exact ho) hb); clear ho hb hg hat))
          have HS0 : DrC w w2.heap.size n0 v1 X1 (w3.drew) := DrC.drew ⟨HI3.out, z1⟩
          go_region_held3 (fun W => DrI w W v1 X1 ∧ W.cell? ⟨w2.heap.size, 1, none⟩ = some (.string n0)) (first | with_reducible assumption | with_reducible exact HS0 | exact DrC.call hb (by with_reducible assumption)) (first | (go_at_call 71; with_reducible refine (ST.out _).mono ?_; rintro e w' ⟨rfl, hb⟩) | (go_at_call 34; with_reducible refine (RT.out _ _ _ _ (by with_reducible assumption : DrC w w2.heap.size n0 v1 X1 _)).mono ?_; rintro e w' ⟨⟨A5, c5, rfl, hF5⟩, hb⟩))
          have HI5 := Lib.hid (And.left (by with_reducible assumption : DrC w w2.heap.size n0 v1 X1 w'))
          go_wp2_with (first | ((with_reducible refine gate_builtin (b := .append) (xs := #[.tmp 41, .tmp 42]) rfl ?_); at_builtin; refine Kd.N_append_rows tkK (w0 := w) w.heap.size rfl (.tmp 41) (.tmp 42) 24 28 (.agg #[(.int .i64 0), (.string ⟨#[]⟩), (.string ⟨#[]⟩), (.slice none 0 0), (.bool false)]) 72 rfl Tryz.underlying24 infoK rfl (by decide) (by decide) v1 (X1.map ofK) (R1.map ofK) A5 m2 c5 (fun k => w.heap.size ≤ k) (fun k => w.heap.size ≤ k ∧ some k ≠ v1.ownBlock) rfl rfl ?aO ?aR (fun _ hk => hk) (fun _ hk => Nat.le_trans HI5.out.below.size hk) ?aB ?aS ?aL ?_; (case aO => exact HI5.out.row); (case aR => exact hF5); (case aB => exact HI5.out.below); (case aS => exact HI5.out.below.size); (case aL => exact HLN2.out); intro v2 w6 ho hb hg hat))
          go_roundw
          case rel => exact ⟨q2, X1 ++ R1, by go_num, hq4, Lib.hid (by rw [List.length_append]; have := HX1L.out; have := HM2.out; omega), Lib.hid (DrI.grown HG.out (by rw [List.map_append]; exact ho) hb), HQ2⟩
          case measure => simp [intOf]; omega
        · have e1 : (k0 != 1) = true := by rw [bne_iff_ne]; exact hk
          have HQ2 : Hid (drvL s = (X ++ [t]) ++ drvL (s.drop q)) := Lib.hid (by
            rw [HQ.out, hdq, hqd]
            have : drv1 (some t, r) = ([t], r) := by
              have h0 : (ofK t).f0 = k0 := by rw [hO]
              cases t with
              | start n al self => exact absurd (h0.symm : k0 = 1) hk
              | _ => rfl
            rw [this]; simp)
          clear hdq hsf hlt2 hbd hrs hrl hq hqd hR hne hps hm hxl hk hO
          go_wp2_with fail
          refine (N1.out _ HI.out.glob).mono ?_
          rintro e w2 ⟨⟨A3, c3, rfl, h3, hF⟩, hb⟩
          have HP : Hid (∀ o : Obj, Kd.FK tkK (w2.alloc o) (fun k => w.heap.size ≤ k ∧ some k ≠ (Value.slice A1 m c1).ownBlock) (⟨k0, n0, x0, a0, s0⟩ : TkS) [.int .i64 k0, .string n0, .string x0, .slice A3 a0.length c3, .bool s0]) := Lib.hid (fun o => k28_mkF _ _ (⟨k0, n0, x0, a0, s0⟩ : TkS) h3 (Kd.F_mono (Kd.F_alloc hF o) (fun k hk => ⟨Nat.le_trans HI.out.below.size hk, fun he => by have := Kd.N_lt HI.out.row k he.symm; omega⟩)))
          replace HI := Lib.hid (HI.out.call hb)
          clear hb N1 h3 hF
          have HC0 : Hid (∀ w3, (w2.alloc (.cells #[.int .i64 k0, .string n0, .string x0, .slice A3 a0.length c3, .bool s0] 28)).grownBy w3 (Value.slice A1 m c1).ownBlock → w3.cell? ⟨w2.heap.size, 0, none⟩ = some (.int .i64 k0) ∧ w3.cell? ⟨w2.heap.size, 1, none⟩ = some (.string n0)) := Lib.hid (fun w3 hg => by
            have hne : some w2.heap.size ≠ (Value.slice A1 m c1).ownBlock := fun he => by have := Kd.N_lt HI.out.row _ he.symm; omega
            exact ⟨cell_grown hg ((World.cell?_alloc_at _ _ _ 0 rfl).trans rfl) hne, cell_grown hg ((World.cell?_alloc_at _ _ _ 1 rfl).trans rfl) hne⟩)
          go_wp2_with (first | ((with_reducible refine gate_builtin (b := .append) (xs := #[.tmp 23, .tmp 25]) rfl ?_); at_builtin; refine Kd.N_append tkK (w0 := w) w.heap.size rfl (.tmp 23) (.tmp 25) 24 28 (.agg #[(.int .i64 0), (.string ⟨#[]⟩), (.string ⟨#[]⟩), (.slice none 0 0), (.bool false)]) 72 rfl Tryz.underlying24 infoK rfl (by decide) (by decide) (.slice A1 m c1) (X.map ofK) ⟨k0, n0, x0, a0, s0⟩ [.int .i64 k0, .string n0, .string x0, .slice A3 a0.length c3, .bool s0] (fun k => w.heap.size ≤ k) (fun k => w.heap.size ≤ k ∧ some k ≠ (Value.slice A1 m c1).ownBlock) rfl (by rw [alloc_sz]; rfl) ?aP (fun _ hk => hk) (fun _ hk => Nat.le_trans (HI.out.alloc _).below.size hk) ?aO ?aB ?aS ?aL ?_; (case aP => exact HP.out _); (case aO => exact (HI.out.alloc _).row); (case aB => exact (HI.out.alloc _).below); (case aS => exact (HI.out.alloc _).below.size); (case aL => exact HLN.out); intro v1 w3 ho hb hg hat; obtain ⟨z0, z1⟩ := HC0.out _ hg))
          go_roundw
          case rel => exact ⟨q, X ++ [t], by go_num, hq2, Lib.hid (by rw [List.length_append]; have := HXL.out; simp; omega), Lib.hid (DrI.grown HG.out (by rw [List.map_append, List.map_singleton, HO.out]; exact ho) hb), HQ2⟩
          case measure => simp [intOf]; omega
    · have hpa : p = a.size := by omega
      have q9 : decide ((p : Int) < (a.size : Int)) = false := decide_eq_false (by omega)
      have hXe : drvL s = X := by rw [HQ.out, List.drop_of_length_le (by have := HSZ.out; omega), drvL_nil, List.append_nil]
      have HX := Lib.hid hXe
      obtain ⟨A1, c1, hv3⟩ := Kd.N_slice HI.out.row
      rw [List.length_map] at hv3
      subst hv3
      have J1 : Hid (∀ W, (∃ k, W = wr.drewN k) → Calls Tryz.prog 15 #[.slice A1 X.length c1] W fun e w' => (∃ v, e = .returned v ∧ Kd.V tkK 28 w' W.heap.size (fun k => w.heap.size ≤ k ∧ k < w'.heap.size) v ((joinL (drvL s)).map ofK)) ∧ Below W.heap.size W w') := Lib.hid (fun W hW => by
        obtain ⟨k, rfl⟩ := hW
        have hv : Kd.V tkK 28 (wr.drewN k) (wr.drewN k).heap.size (fun j => w.heap.size ≤ j ∧ j < (wr.drewN k).heap.size) (.slice A1 (drvL s).length c1) ((drvL s).map ofK) := by
          rw [hXe]; exact Kd.V_drewN (Kd.V_mono (Kd.V_bound (Kd.N_V HI.out.row)) (fun k hk => hk)) k
        have := JN.out A1 c1 HBD.out (wr.drewN k) HI.out.below.size hv
        rw [hXe] at this ⊢
        exact this)
      clear hXe
      go_wp2_with fail
      refine (J1.out _ ⟨0, rfl⟩).mono ?_
      rintro e w2 ⟨⟨v, rfl, hV⟩, hb⟩
      go_wp2_with fail
      go_ret
      refine ⟨⟨_, rfl, ?_⟩, HI.out.below.trans (hb.mono HI.out.below.size)⟩
      rw [HD.out]
      exact hV
end Go.Proofs.YtbdcghbafopjjaaGreatDoor.Hand
end

section
namespace Go.Proofs.YtbdcghbafopjjaaGreatDoor.Hand
open Go Go.RowKit Go.Proofs.YtbdcghbafopjjaaGreatDoor.K0 Go.Proofs.YtbdcghbafopjjaaGreatDoor.Pl Go.Proofs.YtbdcghbafopjjaaGreatDoor.Pb Go.Proofs.YtbdcghbafopjjaaGreatDoor.Sa Go.Proofs.YtbdcghbafopjjaaGreatDoor.St Go.Proofs.YtbdcghbafopjjaaGreatDoor.Pure Go.Proofs.YtbdcghbafopjjaaGreatDoorW.PrintWords Go.Proofs.YtbdcghbafopjjaaGreatDoorW.PrintLast Go.Proofs.YtbdcghbafopjjaaGreatDoorW.PrintMore
abbrev PxC (w : World) (ab d : Nat) (F : Value) (W : World) : Prop := (Glob W ∧ Below w.heap.size w W) ∧ W.cell? ⟨ab, d, none⟩ = some F
theorem PxC.call {w : World} {ab d : Nat} {F : Value} {W W' : World} (hb : Below W.heap.size W W') (h : PxC w ab d F W) : PxC w ab d F W' :=
  ⟨⟨h.1.1.step hb, h.1.2.trans (hb.mono h.1.2.size)⟩, (hb.cell (World.block_lt_of_cell? W _ h.2)).trans h.2⟩
end Go.Proofs.YtbdcghbafopjjaaGreatDoor.Hand
end

section
namespace Go.Proofs.YtbdcghbafopjjaaGreatDoor.Sp
open Go.RowKit Go.Proofs.YtbdcghbafopjjaaGreatDoor.K0 Go.Proofs.YtbdcghbafopjjaaGreatDoor.Hand Go.Proofs.YtbdcghbafopjjaaGreatDoor.Sa Go.Proofs.YtbdcghbafopjjaaGreatDoorW.PrintWords Go.Proofs.YtbdcghbafopjjaaGreatDoorW.PrintLast Go.Proofs.YtbdcghbafopjjaaGreatDoorW.PrintMore
attribute [local go_sem] max2_int min2_int max_two min_two max_three min_three max_four min_four  
set_option linter.unusedVariables false
set_option linter.unusedSimpArgs false
noncomputable def errW : Option Int → Value
  | none => .nilIface
  | some c => .iface 0 (.int .i64 c)
theorem errW_none : errW none = .nilIface := rfl
theorem errW_some (c : Int) : errW (some c) = .iface 0 (.int .i64 c) := rfl
end Go.Proofs.YtbdcghbafopjjaaGreatDoor.Sp
end

section
namespace Go.Proofs.YtbdcghbafopjjaaGreatDoor.Pure
open Go Go.RowKit Go.Proofs.YtbdcghbafopjjaaGreatDoor.K0 Go.Proofs.YtbdcghbafopjjaaGreatDoor.Hand Go.Proofs.YtbdcghbafopjjaaGreatDoor.Sa Go.Proofs.YtbdcghbafopjjaaGreatDoor.Sp Go.Proofs.YtbdcghbafopjjaaGreatDoorW.PrintWords Go.Proofs.YtbdcghbafopjjaaGreatDoorW.PrintMore Go.Proofs.YtbdcghbafopjjaaGreatDoor.Pl Go.Proofs.YtbdcghbafopjjaaGreatDoor.Pb
theorem u8_eq {c : UInt8} (m : UInt8) (n : Int) (h : (m.toNat : Int) = n) : ((c.toNat : Int) = n) ↔ c = m := ⟨fun e => UInt8.toNat_inj.1 (by omega), fun e => by rw [e, h]⟩
end Go.Proofs.YtbdcghbafopjjaaGreatDoor.Pure
namespace Go.Proofs.YtbdcghbafopjjaaGreatDoor.Hand
open Go Go.RowKit Go.Proofs.YtbdcghbafopjjaaGreatDoor.Pl Go.Proofs.YtbdcghbafopjjaaGreatDoor.Pb Go.Proofs.YtbdcghbafopjjaaGreatDoor.Pure Go.Proofs.YtbdcghbafopjjaaGreatDoor.Sp Go.Proofs.YtbdcghbafopjjaaGreatDoorW.PrintWords
end Go.Proofs.YtbdcghbafopjjaaGreatDoor.Hand
end

section
namespace Go.Proofs.YtbdcghbafopjjaaGreatDoor.RowKit
open Go
def R : OpenClaim := Rows.safeDataRow
theorem p2 : laidOutB Tryz.prog = true := by kernel_rfl
theorem p3 : mapsRowed Tryz.prog = true := by kernel_rfl
theorem p7 : (Tryz.prog.stops == []) = true := by kernel_rfl
theorem p9 : (Tryz.prog.stopKnobs == []) = true := by kernel_rfl
theorem p23 : (R.plainKeys == Tryz.prog.plainKeys) = true := by kernel_rfl
theorem p25 : Tryz.prog.stopsHeard = true := by kernel_rfl
theorem p26 : Tryz.prog.mayEnter = true := by kernel_rfl
theorem p27 : (R.lifted == Tryz.prog.liftsFinal) = true := by kernel_rfl
theorem p28 : (Tryz.prog.make == some R.make) = true := by kernel_rfl
theorem looks_is : Tryz.prog.looks [] = Rows.safeDataCard.stood.looks := by kernel_rfl
theorem main_is : Tryz.prog.mainIs = some (Rows.safeDataCard.stood.harness.1, Rows.safeDataCard.stood.harness.2.toList) := by kernel_rfl
end Go.Proofs.YtbdcghbafopjjaaGreatDoor.RowKit
end

section
namespace Go.Proofs.YtbdcghbafopjjaaGreatDoor.RowKit
open Go Go.RowKit
theorem out_of_shape {W : World} (h : W.ShapedOpen Tryz.prog) : ∃ m, W.cell? ⟨0, 0, none⟩ = some (.int .i64 m) :=
  Go.Proofs.cell_of_shapedOpen_int (zero := #[.int .i64 0]) (t := 3) h (of_decide_eq_true (by kernel_rfl)) (by kernel_rfl) rfl (by kernel_rfl) (by kernel_rfl) Tryz.underlying3
theorem laid_mem {P : Program} {w : World} {n : String} {d : DataW Unit} : ∀ {l : List (String × DataW Unit)} {ps : List MemPlace}, DataW.LaidVars P w l ps → (n, d) ∈ l →
    ∃ g t cs fuel p, P.globalNamed n = some g ∧ (P.globals[g]?).map (·.type) = some t ∧ w.var? P n = some cs ∧ DataW.trod (fun _ => ()) P w 0 (fun _ => true) false fuel t cs.toList = some (d, p)
  | [], _, _, hm => by cases hm
  | (m, e) :: r, ps, h, hm => by
    obtain ⟨g, t, cs, fuel, p, q, h1, h2, h3, h4, h5, _⟩ := h
    rcases List.mem_cons.1 hm with h' | h'
    · obtain ⟨rfl, rfl⟩ := Prod.mk.inj h'
      exact ⟨g, t, cs, fuel, p, h1, h2, h3, h4⟩
    · exact laid_mem h5 h'
theorem globE_of_laid {W : World} {laid : List (String × DataW Unit)} {nm : String} {d : DataW Unit} (h : laidMetH Tryz.prog laid W) (hp : (laid.all fun x => x.2.handleName?.isNone) = true)
    (hm : ("strconv.ErrSyntax", DataW.iface nm d) ∈ laid) : Hand.GlobE W := by
  rw [MakeChecks.laidMetH_plain _ _ _ hp] at h
  obtain ⟨ps, hl, _⟩ := h
  obtain ⟨g, t, cs, fuel, p, h1, h2, h3, h4⟩ := laid_mem hl hm
  have hg : Tryz.prog.globalNamed "strconv.ErrSyntax" = some 3 := by kernel_rfl
  obtain rfl : 3 = g := Option.some.inj (hg.symm.trans h1)
  have ht : (Tryz.prog.globals[3]?).map (·.type) = some 50 := by kernel_rfl
  obtain rfl : 50 = t := Option.some.inj (ht.symm.trans h2)
  obtain ⟨_, u, v, hc, _, _⟩ := iface_of_trod Tryz.underlying50 h4
  have hcell := var?_cell h1 h3 0
  have hcs : cs = #[.iface u v] := by cases cs; simpa using hc
  rw [hcs] at hcell
  exact ⟨_, hcell, .inr ⟨u, v, rfl⟩⟩
theorem glob_of_laid {W : World} (hs : W.ShapedOpen Tryz.prog) {laid : List (String × DataW Unit)} {nm : String} {d : DataW Unit} (h : laidMetH Tryz.prog laid W) (hp : (laid.all fun x => x.2.handleName?.isNone) = true)
    (hm : ("strconv.ErrSyntax", DataW.iface nm d) ∈ laid) : Hand.Glob W := ⟨out_of_shape hs, (globE_of_laid h hp hm).out⟩
section
variable {H : Type} {enc : TypeId × Value → H}
theorem handed_and_shaped {a : Assume} {C : Checked} {os : Os} {f : FuncId} {fn : Func} {s : ChangeSpec} {conds : List PathCond} {apart fresh handsOn again : Bool} {X : World → Array Value → Prop}
    (hX : ∀ (w w' : World) (args : Array Value), w.heap = w'.heap → X w args → X w' args)
    (own : ownKnob C.prog.godebug = none) (started : os.Started) (noInit : C.prog.inits.idxOf? f = none) (hfn : C.prog.funcs[f]? = some fn)
    (witness : ∃ (w : World) (tape : Tape) (i : Input), w.os = os ∧ (w.forCall tape i).Shaped C.prog ∧ i.vars = [] ∧ Input.okWide C.prog (w.forCall tape i) .any w.heap.size f i ∧
      ((s.pre enc C.prog fn conds apart (w.forCall tape i).memory i.args ∧ X (w.forCall tape i).memory i.args) ∧ sizedMet enc C.prog fn (OpenSpec.ofChange s) apart (w.forCall tape i).memory i.args) ∧
      a.holds C.prog (lone (Frame.enter C.prog f i.args .normal) [] (w.forCall tape i)))
    (contract : ∀ (W : World) (base : Nat) (args : Array Value) (ds gs : List (DataW H)) (before : List MemPlace),
      (∀ (j : Nat) t v, fn.params[j]? = some t → args[j]? = some v → Value.okWide C.prog W .any base t v) →
      DataW.Whole enc C.prog fn.params.toList s.vars apart W args.toList ds gs before →
      (DataW.weightsEach C.prog (fn.params.toList ++ s.plain.varTypes C.prog) (ds ++ gs)).all (· ≤ reachBytes) = true → X W args → W.ShapedOpen C.prog →
      Calls C.prog f args W fun e W' => ∃ v, e = .returned v ∧ s.post enc C.prog fn apart fresh handsOn again W args v W') :
    ReturnsInHanded a C os f .any (fun w args => (s.pre enc C.prog fn conds apart w args ∧ X w args) ∧ sizedMet enc C.prog fn (OpenSpec.ofChange s) apart w args) (s.post enc C.prog fn apart fresh handsOn again) := by
  refine returnsInHanded_of_calls own started noInit witness ?_
  intro w tape i _ hsh _ hok hpre _
  obtain ⟨_, _, _, fn', hfn', _, _, _, _, hval⟩ := hok
  have e : fn' = fn := Option.some.inj (hfn'.symm.trans hfn)
  subst e
  obtain ⟨⟨⟨ds, gs, before, hw, _⟩, hx⟩, hz⟩ := hpre
  have hw' := DataW.Whole.of_heap (w' := w.forCall tape i) (by rfl) hw
  refine (contract (w.forCall tape i) w.heap.size i.args ds gs before hval hw' (hz.weights hw) (hX _ _ _ (by rfl) hx) hsh).mono fun e W' ⟨v, he, hp⟩ => ?_
  subst he
  exact ChangeSpec.post_blind hp
end
theorem joined {f : FuncId} {fn : Func} {s : ChangeSpec} {c : OpenClaim}
    (k1 : c.wf (OpenSpec.ofChange s) = true) (k4 : (fn.params.all (Tryz.prog.readableRec ·)) = true) (k5 : namedTie Tryz.prog c.named s.vars = true) (k6 : (c.stops == []) = true) (k8 : (c.knobs == []) = true)
    (k10 : (c.inPlace == Tryz.prog.inPlace f) = true) (k11 : (c.unfollowed == Tryz.prog.unfollowed f) = true) (k12 : (c.recurses == Tryz.prog.recurses f) = true) (k13 : (c.named == Tryz.prog.varsNamed f) = true)
    (k14 : (c.maps == (fn.params.toList ++ s.plain.varTypes Tryz.prog).any (Tryz.prog.mapsRec ·)) = true) (k15 : (c.ifaces == (fn.params.toList ++ s.plain.varTypes Tryz.prog).any (Tryz.prog.ifacesRec ·)) = true) (k16 : (c.mapsOut == Tryz.prog.mapsAmong fn.resultTypes.toList) = true)
    (k17 : (c.loops == (fn.params.toList ++ s.plain.varTypes Tryz.prog).any (Tryz.prog.loopsFrom ·)) = true) (k18 : (c.wideKeys == (fn.params.toList ++ s.plain.varTypes Tryz.prog ++ fn.resultTypes.toList).any (Tryz.prog.wideKeysFrom ·)) = true)
    (k19 : s.vars.all (Tryz.prog.varReadable ·) = true) (k20 : fn.resultTypes.all (fun t => Tryz.prog.readableRec t && decide (t < Tryz.prog.types.size)) = true) (k21 : (c.ifacesOut == fn.resultTypes.toList.any (Tryz.prog.ifacesRec ·)) = true) (k22 : (c.loopsOut == fn.resultTypes.toList.any (Tryz.prog.loopsFrom ·)) = true)
    (k23 : c.plainKeys = R.plainKeys) (k24 : c.shortTexts.isNone = true) (k27 : c.lifted = R.lifted) (k28 : c.make = R.make)
    (k29 : c.domain = []) (k29' : c.kinds = []) (k30 : (c.pinned == c.pinnedBy) = true)
    (k31 : (c.veiled == (fn.params.toList ++ s.plain.varTypes Tryz.prog ++ fn.resultTypes.toList).any (Tryz.prog.veiledRec ·)) = true) (k32 : c.veiledFits Tryz.prog fn.params.toList (fn.params.toList ++ s.plain.varTypes Tryz.prog ++ fn.resultTypes.toList) = true) :
    joinedFacts Tryz.prog f fn s c = true := by
  have e23 : (c.plainKeys == Tryz.prog.plainKeys) = true := by rw [k23]; exact p23
  have e27 : (c.lifted == Tryz.prog.liftsFinal) = true := by rw [k27]; exact p27
  have e28 : (Tryz.prog.make == some c.make) = true := by rw [k28]; exact p28
  unfold joinedFacts
  rw [k1, p2, p3, k4, k5, k6, p7, k8, p9, k10, k11, k12, k13, k14, k15, k16, k17, k18, k19, k20, k21, k22, e23, k24, p25, p26, e27, e28, k29, k29', k30, k31, k32]
  rfl
end Go.Proofs.YtbdcghbafopjjaaGreatDoor.RowKit
end
