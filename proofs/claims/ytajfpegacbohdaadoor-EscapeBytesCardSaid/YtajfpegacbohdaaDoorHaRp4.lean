/-
  Hand walks: the library's generic Replacer is made (makeGenericReplacer): which bytes are used, their numbers, the trie.
-/
import Derived.Test.YtajfpegacbohdaaDoorHaRp3
import Derived.Laws.Rows
import Derived.Deep.DeepCutAuto
import Derived.Deep.OwnRows
namespace Go.Proofs.YtajfpegacbohdaaDoor.Hand
open Go.RowKit Go.Proofs.YtajfpegacbohdaaDoor.Pb

/-! ### plain -/
def usedB (l : List UInt8) (x : Nat) : Bool := l.any fun c => c.toNat == x
def cntU (l : List UInt8) : Nat → Nat
  | 0 => 0
  | x + 1 => cntU l x + if usedB l x = true then 1 else 0
theorem cnt_le (l : List UInt8) : ∀ x, cntU l x ≤ x := by
  intro x
  induction x with
  | zero => exact Nat.le_refl _
  | succ x ih => simp only [cntU]; split <;> omega
theorem cnt_mono (l : List UInt8) {x y : Nat} (h : x ≤ y) : cntU l x ≤ cntU l y := by
  induction h with
  | refl => exact Nat.le_refl _
  | step h ih => exact Nat.le_trans ih (by simp only [cntU]; omega)
theorem cnt_lt (l : List UInt8) {x y : Nat} (hu : usedB l x = true) (h : x < y) : cntU l x < cntU l y := by
  have := cnt_mono l (show x + 1 ≤ y from h)
  simp only [cntU, hu, if_true] at this
  omega
theorem used_append (l : List UInt8) (c : UInt8) (x : Nat) : usedB (l ++ [c]) x = (usedB l x || c.toNat == x) := by simp [usedB]
def u8v (b : Bool) : Value := .int .u8 (if b = true then 1 else 0)
/-- the replacer's cells while the bytes that are used are marked -/
def rootF (l : List UInt8) (ts : Int) (j : Nat) : Value :=
  if j = 0 then .string ⟨#[]⟩ else if j = 1 then .int .i64 0 else if j = 2 then .string ⟨#[]⟩ else if j = 3 then .pointer none else if j = 4 then .slice none 0 0 else if j = 5 then .int .i64 ts
  else u8v (usedB l (j - 6))
def zero82 : Array Value := #[.string ⟨#[]⟩, .int .i64 0, .string ⟨#[]⟩, .pointer none, .slice none 0 0, .int .i64 0] ++ Array.replicate 256 (.int .u8 0)
theorem zero82_at (j : Nat) (h : j < 262) : zero82[j]? = some (rootF [] 0 j) := by
  by_cases h6 : j < 6
  · have : j = 0 ∨ j = 1 ∨ j = 2 ∨ j = 3 ∨ j = 4 ∨ j = 5 := by omega
    unfold zero82
    rw [Array.getElem?_append_left (by simpa using h6)]
    rcases this with rfl | rfl | rfl | rfl | rfl | rfl <;> rfl
  · unfold zero82
    rw [Array.getElem?_append_right (by simp; omega)]
    have : rootF [] 0 j = .int .u8 0 := by
      unfold rootF
      rw [if_neg (by omega), if_neg (by omega), if_neg (by omega), if_neg (by omega), if_neg (by omega), if_neg (by omega)]
      rfl
    rw [this, Array.getElem?_replicate, if_pos (by simp; omega)]
theorem zero82_is : ∀ w, (zeroValue 147).run Tryd.prog w = .ok (.agg zero82) w := fun _ => by kernel_rfl

/-- the strings that lie in a slice of the call's: keys and values, one behind the other -/
def flatKV (kv : List (List UInt8 × ByteArray)) : List ByteArray := kv.flatMap fun x => [B x.1, x.2]
theorem flatKV_length (kv : List (List UInt8 × ByteArray)) : (flatKV kv).length = 2 * kv.length := by
  induction kv with
  | nil => rfl
  | cons x r ih =>
    have : flatKV (x :: r) = B x.1 :: x.2 :: flatKV r := rfl
    rw [this]; simp; omega
theorem flatKV_key (kv : List (List UInt8 × ByteArray)) : ∀ q (h : q < kv.length), (flatKV kv)[2 * q]? = some (B kv[q].1) := by
  induction kv with
  | nil => intro q h; simp at h
  | cons x r ih =>
    intro q h
    have : flatKV (x :: r) = B x.1 :: x.2 :: flatKV r := rfl
    rw [this]
    cases q with
    | zero => rfl
    | succ q => rw [show 2 * (q + 1) = 2 * q + 1 + 1 by omega, List.getElem?_cons_succ, List.getElem?_cons_succ]; exact ih q (by simpa using h)
theorem flatKV_val (kv : List (List UInt8 × ByteArray)) : ∀ q (h : q < kv.length), (flatKV kv)[2 * q + 1]? = some kv[q].2 := by
  induction kv with
  | nil => intro q h; simp at h
  | cons x r ih =>
    intro q h
    have : flatKV (x :: r) = B x.1 :: x.2 :: flatKV r := rfl
    rw [this]
    cases q with
    | zero => rfl
    | succ q => rw [show 2 * (q + 1) + 1 = 2 * q + 1 + 1 + 1 by omega, List.getElem?_cons_succ, List.getElem?_cons_succ]; exact ih q (by simpa using h)
def strV (l : List ByteArray) (j : Nat) : Value := .string (l.getD j ⟨#[]⟩)
theorem strV_at {l : List ByteArray} {j : Nat} {s : ByteArray} (h : l[j]? = some s) : strV l j = .string s := by
  unfold strV; rw [List.getD_eq_getElem?_getD, h]; rfl
/-- the bytes of the first q keys -/
def keysU (kv : List (List UInt8 × ByteArray)) (q : Nat) : List UInt8 := (kv.take q).flatMap fun x => x.1
theorem keysU_succ (kv : List (List UInt8 × ByteArray)) (q : Nat) (h : q < kv.length) : keysU kv (q + 1) = keysU kv q ++ kv[q].1 := by
  unfold keysU
  rw [List.take_succ_eq_append_getElem h, List.flatMap_append]
  simp
theorem rootF_mark (l : List UInt8) (c : UInt8) (ts : Int) (j : Nat) : upd (rootF l ts) (6 + c.toNat) (.int .u8 1) j = rootF (l ++ [c]) ts j := by
  by_cases h : j = 6 + c.toNat
  · subst h
    rw [upd_same]
    unfold rootF
    rw [if_neg (by omega), if_neg (by omega), if_neg (by omega), if_neg (by omega), if_neg (by omega), if_neg (by omega), used_append]
    simp [u8v]
  · rw [upd_ne _ _ h]
    unfold rootF
    by_cases h6 : j < 6
    · have : j = 0 ∨ j = 1 ∨ j = 2 ∨ j = 3 ∨ j = 4 ∨ j = 5 := by omega
      rcases this with rfl | rfl | rfl | rfl | rfl | rfl <;> rfl
    · have e : (c.toNat == j - 6) = false := by rw [beq_eq_false_iff_ne]; omega
      rw [used_append, e, Bool.or_false]

theorem rootF_map (l : List UInt8) (ts : Int) (k : Nat) : rootF l ts (6 + k) = u8v (usedB l k) := by
  unfold rootF
  rw [if_neg (by omega), if_neg (by omega), if_neg (by omega), if_neg (by omega), if_neg (by omega), if_neg (by omega), Nat.add_sub_cancel_left]
theorem rootF_5 (l : List UInt8) (ts : Int) : rootF l ts 5 = .int .i64 ts := rfl
theorem rootF_sz (l : List UInt8) (ts ts' : Int) (j : Nat) : upd (rootF l ts) 5 (.int .i64 ts') j = rootF l ts' j := by
  unfold upd
  by_cases h : j = 5
  · subst h; rw [if_pos rfl]; rfl
  · rw [if_neg h]; unfold rootF; rw [if_neg h, if_neg h]
def mapV (l : List UInt8) (ts x : Nat) : Value := .int .u8 ((if usedB l x = true then cntU l x else ts : Nat) : Int)
/-- the replacer's cells while the bytes are numbered: those below k are -/
def mapF (l : List UInt8) (ts k j : Nat) : Value := if j < 6 then rootF l ts j else if j - 6 < k then mapV l ts (j - 6) else u8v (usedB l (j - 6))
theorem mapF_5 (l : List UInt8) (ts k : Nat) : mapF l ts k 5 = .int .i64 (ts : Int) := rfl
theorem mapF_4 (l : List UInt8) (ts k : Nat) : mapF l ts k 4 = .slice none 0 0 := rfl
theorem info_node : (Tryd.prog.info? 142).map (fun i => (i.zero, i.size, i.bytes)) = some (some (.pointer none), 1, 8) := by kernel_rfl
/-- the made replacer's cells -/
def replF (l : List UInt8) (ts bt : Nat) : Nat → Value := upd (mapF l ts 256) 4 (.slice (some ⟨bt, 0, none⟩) ts ts)
theorem replF_2 (l : List UInt8) (ts bt : Nat) : replF l ts bt 2 = .string ⟨#[]⟩ := rfl
theorem replF_1 (l : List UInt8) (ts bt : Nat) : replF l ts bt 1 = .int .i64 0 := rfl
theorem replF_4 (l : List UInt8) (ts bt : Nat) : replF l ts bt 4 = .slice (some ⟨bt, 0, none⟩) ts ts := rfl
theorem replF_5 (l : List UInt8) (ts bt : Nat) : replF l ts bt 5 = .int .i64 (ts : Int) := rfl
theorem replF_map (l : List UInt8) (ts bt x : Nat) (h : x < 256) : replF l ts bt (6 + x) = mapV l ts x := by
  unfold replF
  rw [upd_ne _ _ (by omega)]
  unfold mapF
  rw [if_neg (by omega), if_pos (by omega), Nat.add_sub_cancel_left]
/-- q words lie in the trie -/
structure TrieSt (n br bt lo ts : Nat) (U : List UInt8) (kv : List (List UInt8 × ByteArray)) (q : Nat) (w W : World) : Prop where
  root : BlkF br 262 (replF U ts bt) W
  tab : ∃ T, BlkF bt ts T W ∧ (∀ j (h : j < kv.length), j < q → ∀ c t, kv[j].1 = c :: t → ∃ (b : Nat) (p : Int), 0 < p ∧ T (cntU U c.toNat) = .pointer (some ⟨b, 0, none⟩) ∧ NodeAt lo b t kv[j].2 p W) ∧
    (∀ x, x < ts → (∀ j (h : j < kv.length), j < q → ∀ c t, kv[j].1 = c :: t → cntU U c.toNat ≠ x) → T x = .pointer none)
  below : Below n w W
  size : lo ≤ W.heap.size
theorem NodeAt.mono {lo lo' b : Nat} {t : List UInt8} {v : ByteArray} {p : Int} {W : World} (h : NodeAt lo b t v p W) (hl : lo' ≤ lo) : NodeAt lo' b t v p W := by
  obtain ⟨h1, h2, h3⟩ := h
  refine ⟨by omega, h2, ?_⟩
  rcases h3 with h3 | ⟨ht, b2, h4, h5⟩
  · exact .inl h3
  · exact .inr ⟨ht, b2, by omega, h5⟩
theorem used_of {kv : List (List UInt8 × ByteArray)} {j : Nat} {c : UInt8} {t : List UInt8} (h : j < kv.length) (e : kv[j].1 = c :: t) : usedB (keysU kv kv.length) c.toNat = true := by
  unfold usedB keysU
  rw [List.take_length, List.any_eq_true]
  exact ⟨c, List.mem_flatMap.2 ⟨kv[j], List.getElem_mem h, by rw [e]; simp⟩, by simp⟩
theorem cnt_inj {l : List UInt8} {x y : Nat} (hx : usedB l x = true) (hy : usedB l y = true) (h : x ≠ y) : cntU l x ≠ cntU l y := by
  rcases Nat.lt_or_gt_of_ne h with h | h
  · have := cnt_lt l hx h; omega
  · have := cnt_lt l hy h; omega
/-- no two words begin with one byte -/
def Heads (kv : List (List UInt8 × ByteArray)) : Prop := (∀ x ∈ kv, x.1 ≠ []) ∧ ∀ i j (hi : i < kv.length) (hj : j < kv.length), i ≠ j → kv[i].1.head? ≠ kv[j].1.head?
theorem Heads.ne {kv : List (List UInt8 × ByteArray)} (h : Heads kv) {i j : Nat} (hi : i < kv.length) (hj : j < kv.length) (hne : i ≠ j) {c d : UInt8} {t u : List UInt8} (e : kv[i].1 = c :: t) (f : kv[j].1 = d :: u) : c.toNat ≠ d.toNat := by
  intro he
  have := h.2 i j hi hj hne
  rw [e, f] at this
  exact this (by rw [UInt8.toNat_inj.1 he]; rfl)
theorem TrieSt.fresh {n br bt lo ts q : Nat} {kv : List (List UInt8 × ByteArray)} {w W : World} (h : TrieSt n br bt lo ts (keysU kv kv.length) kv q w W) (hh : Heads kv) (hq : q < kv.length) {c : UInt8} {t : List UInt8} (e : kv[q].1 = c :: t)
    {T : Nat → Value} (hE : ∀ x, x < ts → (∀ j (h : j < kv.length), j < q → ∀ c t, kv[j].1 = c :: t → cntU (keysU kv kv.length) c.toNat ≠ x) → T x = .pointer none) (hm : cntU (keysU kv kv.length) c.toNat < ts) : T (cntU (keysU kv kv.length) c.toNat) = .pointer none :=
  hE _ hm fun j hj hjq d u f => cnt_inj (used_of hj f) (used_of hq e) (hh.ne hj hq (by omega) f e)
theorem TrieSt.next {n br bt lo ts q b : Nat} {kv : List (List UInt8 × ByteArray)} {w W W' : World} {p : Int} (h : TrieSt n br bt lo ts (keysU kv kv.length) kv q w W) (hh : Heads kv) (hq : q < kv.length) {c : UInt8} {t : List UInt8} (e : kv[q].1 = c :: t)
    {T : Nat → Value} (hN : ∀ j (h : j < kv.length), j < q → ∀ c t, kv[j].1 = c :: t → ∃ (b : Nat) (p : Int), 0 < p ∧ T (cntU (keysU kv kv.length) c.toNat) = .pointer (some ⟨b, 0, none⟩) ∧ NodeAt lo b t kv[j].2 p W)
    (hE : ∀ x, x < ts → (∀ j (h : j < kv.length), j < q → ∀ c t, kv[j].1 = c :: t → cntU (keysU kv kv.length) c.toNat ≠ x) → T x = .pointer none) (hp : 0 < p) (hbt : bt < lo) (hbr : br < W.heap.size) (hne : br ≠ bt)
    (hT' : BlkF bt ts (upd T (cntU (keysU kv kv.length) c.toNat) (.pointer (some ⟨b, 0, none⟩))) W') (hB : NodeAt W.heap.size b t kv[q].2 p W') (hU : But n bt W W') : TrieSt n br bt lo ts (keysU kv kv.length) kv (q + 1) w W' := by
  refine ⟨hU.blkF h.root hbr hne, ⟨_, hT', ?_, ?_⟩, h.below.trans hU.below, Nat.le_trans h.size hU.below.size⟩
  · intro j hj hjq d u f
    by_cases hjq' : j = q
    · subst hjq'
      rw [e] at f
      obtain ⟨rfl, rfl⟩ := List.cons.inj f
      exact ⟨b, p, hp, upd_same _ _ _, hB.mono h.size⟩
    · obtain ⟨b', p', h1, h2, h3⟩ := hN j hj (by omega) d u f
      exact ⟨b', p', h1, by rw [upd_ne _ _ (cnt_inj (used_of hj f) (used_of hq e) (hh.ne hj hq hjq' f e))]; exact h2, h3.but hU hbt⟩
  · intro x hx hxe
    have hxm : x ≠ cntU (keysU kv kv.length) c.toNat := fun e' => hxe q hq (by omega) c t e e'.symm
    rw [upd_ne _ _ hxm]
    exact hE x hx fun j hj hjq => hxe j hj (by omega)
theorem made_at (n j : Nat) (h : j < n) : (madeCells #[Value.pointer none] n)[j]? = some (.pointer none) := by
  unfold madeCells
  rw [Array.getElem?_map, Array.getElem?_range, if_pos h]
  simp [Nat.mod_one]
theorem mapF_zero (l : List UInt8) (ts j : Nat) : rootF l ts j = mapF l ts 0 j := by
  unfold mapF
  by_cases h : j < 6
  · rw [if_pos h]
  · rw [if_neg h, if_neg (by omega)]
    obtain ⟨k, rfl⟩ : ∃ k, j = 6 + k := ⟨j - 6, by omega⟩
    rw [rootF_map, Nat.add_sub_cancel_left]
theorem mapF_step (l : List UInt8) (ts k j : Nat) : upd (mapF l ts k) (6 + k) (mapV l ts k) j = mapF l ts (k + 1) j := by
  by_cases h : j = 6 + k
  · subst h
    rw [upd_same]
    unfold mapF
    rw [if_neg (by omega), if_pos (by omega), Nat.add_sub_cancel_left]
  · rw [upd_ne _ _ h]
    unfold mapF
    by_cases h6 : j < 6
    · rw [if_pos h6, if_pos h6]
    · rw [if_neg h6, if_neg h6]
      by_cases hk : j - 6 < k
      · rw [if_pos hk, if_pos (by omega)]
      · rw [if_neg hk, if_neg (by omega)]
section
variable {P : Program}
theorem wpList_load_by {ops : Array Oper} {rest : List Oper} {o : Oper} {a : Act} {w : World} {Q : Exit → Act → World → Prop} (hgd : o.guard = none) (ty : TypeId) (x : Operand) (ho : o.op = .load ty x)
    (adr : Addr) (v : Value) (hx : a.eval x = .pointer (some adr)) (hrun : (loadVar ty adr).run P w = .ok v w) (h : wpList P ops Q rest (a.put o.dst v) w) : wpList P ops Q (o :: rest) a w :=
  wpList_plain hgd fun _ hK => by
    unfold Oper.wp execOp
    simp only [ho, hx, Instr.loadAt, Instr.sureAddr, Sem.run_bind, Sem.run_pure, Result.andThen_ok, hrun]
    exact hK _ _ h
end
/-- the 256 cells from o on -/
def arrF (f : Nat → Value) (o : Nat) : Array Value := Array.ofFn (n := 256) fun i => f (o + i.val)
theorem arrF_at (f : Nat → Value) (o j : Nat) (h : j < 256) : (arrF f o)[j]? = some (f (o + j)) := by
  unfold arrF; rw [Array.getElem?_ofFn, dif_pos h]
theorem load256 {b n o : Nat} {f : Nat → Value} {W : World} (h : BlkF b n f W) (ho : o + 256 ≤ n) : (loadVar 115 ⟨b, o, none⟩).run Tryd.prog W = .ok (.agg (arrF f o)) W := by
  have hl : (loadCells ⟨b, o, none⟩ (arrF f o).toList.length).run Tryd.prog W = .ok (arrF f o).toList.toArray W :=
    run_loadCells_list (P := Tryd.prog) W ⟨b, o, none⟩ (arrF f o).toList (fun j v hv => by
      have hadd : (⟨b, o, none⟩ : Addr).add j = ⟨b, o + j, none⟩ := by unfold Addr.add; split <;> simp_all
      have hj : j < 256 := by
        rcases Nat.lt_or_ge j 256 with h' | h'
        · exact h'
        · rw [List.getElem?_eq_none (by unfold arrF; rw [Array.length_toList, Array.size_ofFn]; exact h')] at hv; cases hv
      rw [Array.getElem?_toList, arrF_at f o j hj] at hv
      rw [hadd, h.cell (o + j) (by omega), ← hv])
  have hagg : (isAgg 115).run Tryd.prog W = .ok true W := by
    unfold isAgg
    rw [Sem.run_bind, run_underlying Tryd.underlying115 W]
    rfl
  obtain ⟨i, hi⟩ := info_of_underlying (P := Tryd.prog) Tryd.underlying115
  have hc : Tryd.prog.cellsOf 115 = 256 := by kernel_rfl
  have hsz := run_sizeOf (P := Tryd.prog) W hi
  rw [hc] at hsz
  have hlen : (arrF f o).toList.length = 256 := by unfold arrF; rw [Array.length_toList, Array.size_ofFn]
  rw [hlen] at hl
  unfold loadVar
  rw [Sem.run_bind, hagg]
  simp only [Result.andThen_ok, if_true, Sem.run_bind, hsz, hl, Sem.run_pure, Array.toArray_toList]
theorem index256 {f : Nat → Value} {o j : Nat} (h : j < 256) (W : World) : (Instr.index 115 (.agg (arrF f o)) (.int .i64 (j : Int))).run Tryd.prog W = .ok (f (o + j)) W := by
  obtain ⟨i, hi⟩ := info_of_underlying (P := Tryd.prog) Tryd.underlying5
  exact run_index_agg (j := j) Tryd.underlying115 hi (by kernel_rfl) (by kernel_rfl) h (arrF_at f o j h)

/-- what makeGenericReplacer leaves -/
def Made (kv : List (List UInt8 × ByteArray)) (w w' : World) : Prop := ∃ bt ts, ts = cntU (keysU kv kv.length) 256 ∧ ts ≤ 200 ∧ w.heap.size < bt ∧ TrieSt w.heap.size w.heap.size bt (bt + 1) ts (keysU kv kv.length) kv kv.length w w'
set_option maxRecDepth 100000 in
set_option maxHeartbeats 16000000 in
theorem make_gen (bo cap : Nat) (kv : List (List UInt8 × ByteArray)) (w : World) (hn : kv.length ≤ 100) (hts200 : cntU (keysU kv kv.length) 256 ≤ 200) (hk : ∀ x ∈ kv, x.1.length ≤ 1000) (hh : Heads kv)
    (ho : BlkF bo (2 * kv.length) (strV (flatKV kv)) w) (hbo : bo < w.heap.size) :
    Calls Tryd.prog 88 #[.slice (some ⟨bo, 0, none⟩) (2 * kv.length) cap] w fun e w' => e = .returned (.pointer (some ⟨w.heap.size, 0, none⟩)) ∧ Made kv w w' := by
  have hz := zero82_is
  have HO := Lib.hid ho
  have HBO := Lib.hid hbo
  have hR0 : BlkF w.heap.size 262 (rootF [] 0) (w.alloc (.cells zero82 147)) :=
    ⟨fun j hj => (World.cell?_alloc_at _ _ _ j rfl).trans (zero82_at j hj), fun j => World.frozen?_alloc_at _ _ _ j rfl⟩
  have HR0 := Lib.hid hR0
  have HB0 := Lib.hid (Below.alloc (Below.refl w.heap.size w) (Nat.le_refl _) (.cells zero82 147))
  clear ho hbo hR0
  go_enter Tryd.func88, Tryd.ntmps88
  go_upto_block 0 with fail
  clear hz
  go_cut [] (fun wx => Hid (BlkF w.heap.size 262 (rootF (keysU kv kv.length) 0) wx) ∧ Hid (Below w.heap.size w wx))
  case first =>
    go_wp2_with fail
    go_loopw [4] (fun i wr => ∃ q : Nat, q ≤ kv.length ∧ i = .int .i64 (2 * (q : Int)) ∧ Hid (BlkF w.heap.size 262 (rootF (keysU kv q) 0) wr) ∧ Hid (Below w.heap.size w wr)) (fun i _ => 2 * kv.length - (intOf i).toNat)
    case atStart => exact ⟨0, Nat.zero_le _, rfl, HR0, HB0⟩
    case round =>
      obtain ⟨q, hq, rfl, HR, HB⟩ := hrel
      by_cases hlt : q < kv.length
      · have hks := hk _ (List.getElem_mem hlt)
        have hkey := (HO.out.below HB.out HBO.out).cell (2 * q) (by omega)
        rw [strV_at (flatKV_key kv q hlt)] at hkey
        have hsucc := keysU_succ kv q hlt
        obtain ⟨key, hkey'⟩ : ∃ k, kv[q].1 = k := ⟨_, rfl⟩
        rw [hkey'] at hks hkey hsucc
        obtain ⟨K, hK⟩ : ∃ K, B key = K := ⟨_, rfl⟩
        rw [hK] at hkey
        have hKs : K.size = key.length := by rw [← hK]; simp
        have hKz : K.size ≤ 1000 := by omega
        have HK := Lib.hid hK
        have HKS := Lib.hid hKs
        have HS := Lib.hid hsucc
        clear hkey' hK hKs hsucc hks
        go_wp2_with fail
        clear hkey
        go_loopw [6] (fun i wr => ∃ k : Nat, k ≤ K.size ∧ i = .int .i64 (k : Int) ∧ Hid (BlkF w.heap.size 262 (rootF (keysU kv q ++ key.take k) 0) wr) ∧ Hid (Below w.heap.size w wr)) (fun i _ => K.size - (intOf i).toNat)
        case atStart => exact ⟨0, Nat.zero_le _, rfl, Lib.hid (by rw [List.take_zero, List.append_nil]; exact HR.out), HB⟩
        case round =>
          clear HR HB
          obtain ⟨k, hk', rfl, HR, HB⟩ := hrel
          by_cases hlk : k < K.size
          · have hb0 : (0 : Int) ≤ (K[k].toNat : Int) := by omega
            have hb1 : (K[k].toNat : Int) < 256 := by have := K[k].toNat_lt; omega
            have hb2 : K[k].toNat < 256 := by have := K[k].toNat_lt; omega
            have hc := HR.out.cell (6 + K[k].toNat) (by omega)
            have hf := HR.out.open_
            have htk : key.take (k + 1) = key.take k ++ [K[k]] := by
              have hk2 : k < key.length := by rw [← HKS.out]; exact hlk
              have e : K[k] = key[k] := by
                have h := HK.out
                subst h
                rfl
              rw [List.take_succ_eq_append_getElem hk2, e]
            have hstep : ∀ W, BlkF w.heap.size 262 (rootF (keysU kv q ++ key.take k) 0) W → Below w.heap.size w W → BlkF w.heap.size 262 (rootF (keysU kv q ++ key.take (k + 1)) 0) (W.setCell ⟨w.heap.size, 6 + K[k].toNat, none⟩ (.int .u8 1)) ∧ Below w.heap.size w (W.setCell ⟨w.heap.size, 6 + K[k].toNat, none⟩ (.int .u8 1)) := by
              intro W h hb
              rw [htk, ← List.append_assoc]
              exact ⟨(h.set _ _ (by omega)).congr fun j _ => rootF_mark _ _ _ j, hb.setCell (Nat.le_refl _) _⟩
            have HST := Lib.hid hstep
            clear hstep htk
            go_wp2_with fail
            go_still_tail 7, (by kernel_rfl)
            change wpList _ _ _ _ _ wr.drew
            have hd : Below (w.heap.size + 1) wr wr.drew := Below.drew (Below.refl _ _)
            have HR2 := Lib.hid (HR.out.below hd (by omega))
            have HB2 := Lib.hid (HB.out.drew)
            have hc2 := HR2.out.cell (6 + K[k].toNat) (by omega)
            have hf2 := HR2.out.open_
            clear hd hc hf
            generalize wr.drew = W2 at HR2 HB2 hc2 hf2 ⊢
            go_wp2_with fail
            go_roundw
            case rel => exact ⟨k + 1, by omega, by go_num, Lib.hid (HST.out _ HR2.out HB2.out).1, Lib.hid (HST.out _ HR2.out HB2.out).2⟩
            case measure => simp [intOf]; omega
          · obtain rfl : k = K.size := by omega
            have HR3 : Hid (BlkF w.heap.size 262 (rootF (keysU kv (q + 1)) 0) wr) := Lib.hid (by
              have h := HR.out
              rw [HKS.out, List.take_length] at h
              rw [HS.out]; exact h)
            clear HR
            go_wp2_with fail
            go_roundw
            case rel => exact ⟨q + 1, by omega, by go_num, HR3, HB⟩
            case measure => simp [intOf]; omega
      · obtain rfl : q = kv.length := by omega
        go_wp2_with fail
        go_meet
        case rel => exact ⟨HR, HB⟩
  case rest =>
    clear HR0 HB0
    obtain ⟨HR, HB⟩ := hcut
    obtain ⟨U, hU⟩ : ∃ U, keysU kv kv.length = U := ⟨_, rfl⟩
    rw [hU] at HR
    have HL := Lib.hid (load256 (o := 6) HR.out (by omega))
    have HU := Lib.hid hU
    clear hU
    go_upto_block 4 with (with_reducible refine wpList_load_by rfl 115 (.tmp 39) rfl ⟨w.heap.size, 6, none⟩ _ rfl HL.out ?_)
    clear HL
    go_cut [] (fun wx => Hid (BlkF w.heap.size 262 (rootF U (cntU U 256)) wx) ∧ Hid (Below w.heap.size w wx))
    case first =>
      go_wp2_with fail
      go_loopw [41] (fun i wr => ∃ k : Nat, k ≤ 256 ∧ i = .int .i64 (k : Int) ∧ Hid (BlkF w.heap.size 262 (rootF U (cntU U k)) wr) ∧ Hid (Below w.heap.size w wr)) (fun i _ => 256 - (intOf i).toNat)
      case atStart => exact ⟨0, Nat.zero_le _, rfl, HR, HB⟩
      case round =>
        clear HR HB
        obtain ⟨k, hk', rfl, HR, HB⟩ := hrel
        by_cases hlk : k < 256
        · have hix := index256 (f := rootF U 0) (o := 6) hlk
          rw [rootF_map U 0 k] at hix
          have hcl := cnt_le U k
          have h5 := HR.out.cell 5 (by omega)
          rw [rootF_5] at h5
          have hf := HR.out.open_
          have hstep : ∀ x : Nat, x = cntU U (k + 1) → Hid (BlkF w.heap.size 262 (rootF U (cntU U (k + 1))) (wr.setCell ⟨w.heap.size, 5, none⟩ (.int .i64 (x : Int)))) ∧ Hid (Below w.heap.size w (wr.setCell ⟨w.heap.size, 5, none⟩ (.int .i64 (x : Int)))) := by
            rintro x rfl
            exact ⟨Lib.hid ((HR.out.set 5 _ (by omega)).congr fun j _ => rootF_sz U _ _ j), Lib.hid (HB.out.setCell (Nat.le_refl _) _)⟩
          have HST := Lib.hid hstep
          clear hstep
          cases hu : usedB U k with
          | true =>
            rw [hu] at hix
            have hx : cntU U k + 1 = cntU U (k + 1) := by simp [cntU, hu]
            obtain ⟨q, hq⟩ : ∃ q, cntU U k = q := ⟨_, rfl⟩
            rw [hq] at hcl h5 hx
            have HX := Lib.hid hx
            unfold u8v at hix
            clear hu hx hq HR
            go_wp2_with fail
            go_roundw
            case rel => exact ⟨k + 1, by omega, by go_num, by exact (HST.out (q + 1) HX.out).1, (HST.out (q + 1) HX.out).2⟩
            case measure => simp [intOf]; omega
          | false =>
            rw [hu] at hix
            have hx : cntU U k = cntU U (k + 1) := by simp [cntU, hu]
            obtain ⟨q, hq⟩ : ∃ q, cntU U k = q := ⟨_, rfl⟩
            rw [hq] at hcl h5 hx
            have HX := Lib.hid hx
            unfold u8v at hix
            clear hu hx hq HR
            go_wp2_with fail
            go_roundw
            case rel => exact ⟨k + 1, by omega, by go_num, by exact (HST.out q HX.out).1, (HST.out q HX.out).2⟩
            case measure => simp [intOf]; omega
        · obtain rfl : k = 256 := by omega
          go_wp2_with fail
          go_meet
          case rel => exact ⟨HR, HB⟩
    case rest =>
      clear HR HB
      obtain ⟨HR, HB⟩ := hcut
      obtain ⟨ts, hts⟩ : ∃ ts, cntU U 256 = ts := ⟨_, rfl⟩
      have hsm := hts200
      rw [HU.out, hts] at hsm
      rw [hts] at HR
      have HTS := Lib.hid hts
      clear hts
      have HL := Lib.hid (load256 (o := 6) HR.out (by omega))
      go_upto_block 6 with (with_reducible refine wpList_load_by rfl 115 (.tmp 56) rfl ⟨w.heap.size, 6, none⟩ _ rfl HL.out ?_)
      clear HL
      go_cut [] (fun wx => Hid (BlkF w.heap.size 262 (mapF U ts 256) wx) ∧ Hid (Below w.heap.size w wx))
      case first =>
        go_wp2_with fail
        go_loopw [9, 58] (fun x i wr => ∃ k : Nat, k ≤ 256 ∧ x = .int .u8 (cntU U k : Int) ∧ i = .int .i64 (k : Int) ∧ Hid (BlkF w.heap.size 262 (mapF U ts k) wr) ∧ Hid (Below w.heap.size w wr)) (fun _ i _ => 256 - (intOf i).toNat)
        case atStart => exact ⟨0, Nat.zero_le _, rfl, rfl, Lib.hid (HR.out.congr fun j _ => mapF_zero U ts j), HB⟩
        case round =>
          clear HR HB
          obtain ⟨k, hk', rfl, rfl, HR, HB⟩ := hrel
          by_cases hlk : k < 256
          · have hix := index256 (f := rootF U ts) (o := 6) hlk
            rw [rootF_map U ts k] at hix
            have hcl : cntU U k ≤ 200 := by
              have := cnt_mono U (show k ≤ 256 from hk')
              rw [HTS.out] at this
              omega
            have hstep : ∀ W, Hid (BlkF w.heap.size 262 (mapF U ts k) W) → Hid (Below w.heap.size w W) → Hid (BlkF w.heap.size 262 (mapF U ts (k + 1)) (W.setCell ⟨w.heap.size, 6 + k, none⟩ (mapV U ts k))) ∧ Hid (Below w.heap.size w (W.setCell ⟨w.heap.size, 6 + k, none⟩ (mapV U ts k))) :=
              fun W h hb => ⟨Lib.hid ((h.out.set _ _ (by omega)).congr fun j _ => mapF_step U ts k j), Lib.hid (hb.out.setCell (Nat.le_refl _) _)⟩
            have hk0 : (0 : Int) ≤ (k : Int) := by omega
            have hk1 : (k : Int) < 256 := by omega
            have ht1 : (ts : Int) < 256 := by omega
            cases hu : usedB U k with
            | false =>
              rw [hu] at hix
              have hx : cntU U k = cntU U (k + 1) := by simp [cntU, hu]
              have hm : mapV U ts k = .int .u8 (ts : Int) := by simp [mapV, hu]
              rw [hm] at hstep
              have HST := Lib.hid hstep
              obtain ⟨q, hq⟩ : ∃ q, cntU U k = q := ⟨_, rfl⟩
              rw [hq] at hcl hx ⊢
              have HX := Lib.hid hx
              unfold u8v at hix
              clear hu hx hq hm hstep
              have h5 := HR.out.cell 5 (by omega)
              rw [mapF_5] at h5
              go_wp2_with fail
              go_still_tail 10, (by kernel_rfl)
              change wpList _ _ _ _ _ wr.drew
              have hd : Below (w.heap.size + 1) wr wr.drew := Below.drew (Below.refl _ _)
              have HR2 := Lib.hid (HR.out.below hd (by omega))
              have HB2 := Lib.hid (HB.out.drew)
              have hc2 := HR2.out.cell (6 + k) (by omega)
              have hf2 := HR2.out.open_
              clear hd h5
              generalize wr.drew = W2 at HR2 HB2 hc2 hf2 ⊢
              go_wp2_with fail
              go_roundw
              case rel => exact ⟨k + 1, by omega, by rw [HX.out], by go_num, (HST.out _ HR2 HB2).1, (HST.out _ HR2 HB2).2⟩
              case measure => simp [intOf]; omega
            | true =>
              rw [hu] at hix
              have hx : cntU U k + 1 = cntU U (k + 1) := by simp [cntU, hu]
              have hm : mapV U ts k = .int .u8 (cntU U k : Int) := by simp [mapV, hu]
              rw [hm] at hstep
              have HST := Lib.hid hstep
              have hc := HR.out.cell (6 + k) (by omega)
              have hf := HR.out.open_
              obtain ⟨q, hq⟩ : ∃ q, cntU U k = q := ⟨_, rfl⟩
              rw [hq] at hcl hx HST ⊢
              have HX := Lib.hid hx
              unfold u8v at hix
              clear hu hx hq hm hstep
              go_wp2_with fail
              go_roundw
              case rel => exact ⟨k + 1, by omega, by rw [← HX.out]; go_num, by go_num, (HST.out _ HR HB).1, (HST.out _ HR HB).2⟩
              case measure => simp [intOf]; omega
          · obtain rfl : k = 256 := by omega
            go_wp2_with fail
            go_meet
            case rel => exact ⟨HR, HB⟩
      case rest =>
        clear HR HB
        obtain ⟨HR, HB⟩ := hcut
        have h5 := HR.out.cell 5 (by omega)
        rw [mapF_5] at h5
        have h4 := HR.out.cell 4 (by omega)
        rw [mapF_4] at h4
        have hf := HR.out.open_
        have ht0 : (0 : Int) ≤ (ts : Int) := by omega
        have hmk := run_make_row' (P := Tryd.prog) 143 142 (.pointer none) 8 Tryd.underlying143 info_node rfl .i64 .i64 ts (by omega) (by omega) wc
        have hbr := World.block_lt_of_cell? wc _ h4
        have h4' : (wc.alloc (.cells (madeCells #[.pointer none] ts) 142)).cell? ⟨w.heap.size, 4, none⟩ = some (.slice none 0 0) := by
          rw [World.cell?_alloc_past _ _ _ hbr]; exact h4
        have hf' : ∀ j, (wc.alloc (.cells (madeCells #[.pointer none] ts) 142)).frozen? ⟨w.heap.size, j, none⟩ = false := fun j => by
          rw [World.frozen?_alloc_past _ _ _ hbr]; exact hf j
        have hS : TrieSt w.heap.size w.heap.size wc.heap.size (wc.heap.size + 1) ts (keysU kv kv.length) kv 0 w ((wc.alloc (.cells (madeCells #[.pointer none] ts) 142)).setCell ⟨w.heap.size, 4, none⟩ (.slice (some ⟨wc.heap.size, 0, none⟩) ts ts)) := by
          have hba : Below wc.heap.size wc (wc.alloc (.cells (madeCells #[.pointer none] ts) 142)) := Below.alloc (Below.refl _ _) (Nat.le_refl _) _
          refine ⟨?_, ⟨fun _ => .pointer none, ?_, fun j _ h => absurd h (Nat.not_lt_zero _), fun _ _ _ => rfl⟩, ?_, by simp⟩
          · rw [HU.out]
            exact (HR.out.below hba hbr).set 4 _ (by omega)
          · refine BlkF.other ?_ 4 _ (Nat.ne_of_lt hbr)
            exact ⟨fun j hj => (World.cell?_alloc_at _ _ _ j rfl).trans (made_at ts j hj), fun j => World.frozen?_alloc_at _ _ _ j rfl⟩
          · exact (HB.out.trans (hba.mono HB.out.size)).setCell (Nat.le_refl _) _
        have HS := Lib.hid hS
        have HBR := Lib.hid hbr
        clear hS HR hf hbr
        obtain ⟨bt, hbt⟩ : ∃ b, wc.heap.size = b := ⟨_, rfl⟩
        rw [hbt] at HS HBR hmk
        clear hbt
        go_upto_block 8 with fail
        clear hmk h4' hf' h5 h4
        have hbo2 : bo < bt := Nat.lt_trans HBO.out HBR.out
        have HBO2 := Lib.hid hbo2
        clear hbo2
        go_cut [] (fun wx => Hid (TrieSt w.heap.size w.heap.size bt (bt + 1) ts (keysU kv kv.length) kv kv.length w wx))
        case first =>
          go_wp2_with fail
          go_loopw [12] (fun i wr => ∃ q : Nat, q ≤ kv.length ∧ i = .int .i64 (2 * (q : Int)) ∧ Hid (TrieSt w.heap.size w.heap.size bt (bt + 1) ts (keysU kv kv.length) kv q w wr)) (fun i _ => 2 * kv.length - (intOf i).toNat)
          case atStart => exact ⟨0, Nat.zero_le _, rfl, HS⟩
          case round =>
            clear HS
            obtain ⟨q, hq, rfl, HS⟩ := hrel
            by_cases hlt : q < kv.length
            · have hks := hk _ (List.getElem_mem hlt)
              have hbl := HO.out.below HS.out.below HBO.out
              have hkey := hbl.cell (2 * q) (by omega)
              have hval := hbl.cell (2 * q + 1) (by omega)
              rw [strV_at (flatKV_key kv q hlt)] at hkey
              rw [strV_at (flatKV_val kv q hlt)] at hval
              obtain ⟨c, t, hct⟩ := List.exists_cons_of_ne_nil (hh.1 _ (List.getElem_mem hlt))
              rw [hct] at hks hkey
              obtain ⟨T, hT, hN, hE⟩ := HS.out.tab
              have hm : cntU (keysU kv kv.length) c.toNat < ts := by
                have h1 := cnt_lt (keysU kv kv.length) (used_of hlt hct) (show c.toNat < 256 from c.toNat_lt)
                have h2 := HTS.out
                rw [← HU.out] at h2
                omega
              have hrm : replF (keysU kv kv.length) ts bt (6 + c.toNat) = .int .u8 ((cntU (keysU kv kv.length) c.toNat : Nat) : Int) := by
                rw [replF_map _ _ _ _ c.toNat_lt]
                simp only [mapV, used_of hlt hct, if_true]
              have hsz := HS.out.size
              have CA := fun W (h1 : BlkF w.heap.size 262 (replF (keysU kv kv.length) ts bt) W) (h2 : BlkF bt ts T W) (h3 : bt < W.heap.size) =>
                add_root w.heap.size bt ts w.heap.size (replF (keysU kv kv.length) ts bt) T c t kv[q].2 (2 * (kv.length : Int) - 2 * (q : Int)) (cntU (keysU kv kv.length) c.toNat) W (by simp at hks; omega) (by omega) h1 h2 hm (Nat.ne_of_lt HBR.out) (Nat.lt_trans HBR.out h3) h3 (Nat.le_of_lt HBR.out) rfl rfl hrm (HS.out.fresh hh hlt hct hE hm)
              have HCA := Lib.hid CA
              have HT := Lib.hid hT
              have HN := Lib.hid hN
              have HE := Lib.hid hE
              have HCT := Lib.hid hct
              obtain ⟨K, hK⟩ : ∃ K, B (c :: t) = K := ⟨_, rfl⟩
              obtain ⟨V, hV⟩ : ∃ V, kv[q].2 = V := ⟨_, rfl⟩
              rw [hK] at hkey HCA
              rw [hV] at hval HCA
              have HV := Lib.hid hV
              clear CA hT hN hE hct hK hV hm hrm hks hbl
              have hi0 : (0 : Int) ≤ 2 * (q : Int) := by omega
              have hi1 : 2 * (q : Int) + 1 < 2 * (kv.length : Int) := by omega
              have hi3 : 2 * (q : Int) < 2 * (kv.length : Int) := by omega
              have hi4 : (0 : Int) ≤ 2 * (q : Int) + 1 := by omega
              have hw1 : IntKind.i64.wrap (2 * (q : Int) + 1) = 2 * (q : Int) + 1 := by simp [IntKind.wrap_i64, wrap64]; omega
              have hw2 : IntKind.i64.wrap (2 * (kv.length : Int) - 2 * (q : Int)) = 2 * (kv.length : Int) - 2 * (q : Int) := by simp [IntKind.wrap_i64, wrap64]; omega
              have ht1 : (2 * (q : Int)).toNat = 2 * q := by omega
              have ht2 : (2 * (q : Int) + 1).toNat = 2 * q + 1 := by omega
              go_wp2_with fail
              go_still_tail 17, (by kernel_rfl)
              change wpList _ _ _ _ _ wr.drew
              have hd : Below (bt + 1) wr wr.drew := Below.drew (Below.refl _ _)
              have hrt := HS.out.root.below hd (Nat.lt_succ_of_lt HBR.out)
              have HT2 := Lib.hid (HT.out.below hd (Nat.lt_succ_self _))
              have HR2 := Lib.hid hrt
              have hdz : bt < wr.drew.heap.size := hsz
              have HDZ := Lib.hid hdz
              have HUD := Lib.hid ((But.refl w.heap.size bt wr).drew HS.out.below.size)
              clear hd hrt hdz hkey hval ht1 ht2 hw1 hw2
              obtain ⟨W2, hW2⟩ : ∃ W, wr.drew = W := ⟨_, rfl⟩
              have hW2s : W2.heap.size = wr.heap.size := by rw [← hW2]; rfl
              have HW2S := Lib.hid hW2s
              change wpList _ _ _ _ _ wr.drew
              rw [hW2] at HT2 HR2 HDZ HUD ⊢
              clear hW2 hW2s
              go_wp2_with fail
              refine (HCA.out W2 HR2.out HT2.out HDZ.out).mono ?_
              rintro e w' ⟨rfl, b, hb1, hb2, hb3, hb4, hb5⟩
              have HNX : Hid (TrieSt w.heap.size w.heap.size bt (bt + 1) ts (keysU kv kv.length) kv (q + 1) w w') := Lib.hid (by
                have hU : But w.heap.size bt wr w' := ⟨HUD.out.below.trans hb5.below, fun b' h1 h2 => by
                  have h3 := hb5.same b' (by rw [HW2S.out]; exact h1) h2
                  have h4 := HUD.out.same b' h1 h2
                  exact ⟨fun j => (h3.1 j).trans (h4.1 j), fun j => (h3.2 j).trans (h4.2 j)⟩⟩
                rw [← HV.out] at hb4
                refine TrieSt.next HS.out hh hlt HCT.out HN.out HE.out (p := 2 * (kv.length : Int) - 2 * (q : Int)) (by omega) (Nat.lt_succ_self _) (Nat.lt_trans HBR.out hsz) (Nat.ne_of_lt HBR.out) hb3 ?_ hU
                exact hb4.mono (Nat.le_of_eq HW2S.out.symm))
              clear hb1 hb2 hb3 hb4 hb5
              go_wp2_with fail
              go_roundw
              case rel => exact ⟨q + 1, by omega, by go_num, HNX⟩
              case measure => simp [intOf]; omega
            · obtain rfl : q = kv.length := by omega
              go_wp2_with fail
              go_meet
              case rel => exact HS
        case rest =>
          go_wp2_with fail
          go_ret
          exact ⟨rfl, bt, ts, by rw [HU.out]; exact HTS.out.symm, hsm, HBR.out, hcut.out⟩
end Go.Proofs.YtajfpegacbohdaaDoor.Hand
