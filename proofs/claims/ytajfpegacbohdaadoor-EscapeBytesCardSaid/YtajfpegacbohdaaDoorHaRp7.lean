/-
  Hand walks: the library's generic Replacer writes a text: each word's value in its place.
-/
import Derived.Test.YtajfpegacbohdaaDoorHaRp6
import Derived.Test.YtajfpegacbohdaaDoorPlE
import Derived.Deep.RegionWith
namespace Go.Proofs.YtajfpegacbohdaaDoor.Hand
open Go.RowKit Go.Proofs.YtajfpegacbohdaaDoor.Pb Go.Proofs.YtajfpegacbohdaaDoor.Pl

theorem Below.of_drewN (B : Nat) (w : World) (k : Nat) : Below B w (w.drewN k) := ⟨rfl, rfl, rfl, Nat.le_refl _, fun _ _ => rfl⟩
/-- what is written for a word that begins with a byte, and the word's rest -/
def pairF (kv : List (List UInt8 × ByteArray)) (c : UInt8) : Option (List UInt8 × List UInt8) := (kv.find? fun x => x.1.head? == some c).map fun x => (x.1.tail, x.2.data.toList)
theorem pairF_some {kv : List (List UInt8 × ByteArray)} {c : UInt8} {t v : List UInt8} (h : pairF kv c = some (t, v)) : ∃ j, ∃ hj : j < kv.length, kv[j].1 = c :: t ∧ kv[j].2 = B v := by
  unfold pairF at h
  obtain ⟨x, hx, e⟩ := Option.map_eq_some_iff.1 h
  have hm := List.mem_of_find?_eq_some hx
  have hp := List.find?_some hx
  obtain ⟨j, hj, ej⟩ := List.mem_iff_getElem.1 hm
  refine ⟨j, hj, ?_, ?_⟩
  · rw [ej]
    simp only [beq_iff_eq] at hp
    have e1 : x.1.tail = t := (Prod.mk.inj e).1
    cases hxl : x.1 with
    | nil => rw [hxl] at hp; cases hp
    | cons d r => rw [hxl] at hp e1; simp at hp e1; rw [hp, e1]
  · rw [ej]
    have e2 : x.2.data.toList = v := (Prod.mk.inj e).2
    rw [← e2]; exact B_of _
theorem pairF_none {kv : List (List UInt8 × ByteArray)} {c : UInt8} (h : pairF kv c = none) : ∀ j (hj : j < kv.length) d t, kv[j].1 = d :: t → d ≠ c := by
  unfold pairF at h
  simp only [Option.map_eq_none_iff, List.find?_eq_none] at h
  intro j hj d t e hd
  have := h _ (List.getElem_mem hj)
  rw [e, hd] at this
  simp at this

/-- the trie lies there, made in a world W0 -/
structure TrieAt (kv : List (List UInt8 × ByteArray)) (br bt ts : Nat) (W : World) : Prop where
  root : BlkF br 262 (replF (keysU kv kv.length) ts bt) W
  tab : ∃ T, BlkF bt ts T W ∧ (∀ j (h : j < kv.length), ∀ c t, kv[j].1 = c :: t → ∃ (b : Nat) (p : Int), 0 < p ∧ T (cntU (keysU kv kv.length) c.toNat) = .pointer (some ⟨b, 0, none⟩) ∧ NodeAt (bt + 1) b t kv[j].2 p W) ∧
    (∀ x, x < ts → (∀ j (h : j < kv.length), ∀ c t, kv[j].1 = c :: t → cntU (keysU kv kv.length) c.toNat ≠ x) → T x = .pointer none)
  heads : Heads kv
  lens : ∀ x ∈ kv, x.1.length ≤ 1000
  lt : br < bt ∧ bt < W.heap.size
  many : ts = cntU (keysU kv kv.length) 256 ∧ ts ≤ 200
theorem NodeAt.below {lo b : Nat} {t : List UInt8} {v : ByteArray} {p : Int} {w W : World} (h : NodeAt lo b t v p w) (hb : Below w.heap.size w W) : NodeAt lo b t v p W := by
  obtain ⟨h1, h2, h3⟩ := h
  refine ⟨h1, Nat.lt_of_lt_of_le h2 hb.size, ?_⟩
  rcases h3 with ⟨ht, h3⟩ | ⟨ht, b2, h4, h5, h6, h7⟩
  · exact .inl ⟨ht, h3.below hb h2⟩
  · exact .inr ⟨ht, b2, h4, Nat.lt_of_lt_of_le h5 hb.size, h6.below hb h2, h7.below hb h5⟩
theorem TrieAt.below {kv : List (List UInt8 × ByteArray)} {br bt ts : Nat} {w W : World} (h : TrieAt kv br bt ts w) (hb : Below w.heap.size w W) : TrieAt kv br bt ts W := by
  obtain ⟨T, h1, h2, h3⟩ := h.tab
  refine ⟨h.root.below hb (Nat.lt_trans h.lt.1 h.lt.2), ⟨T, h1.below hb h.lt.2, fun j hj c t e => ?_, h3⟩, h.heads, h.lens, ⟨h.lt.1, Nat.lt_of_lt_of_le h.lt.2 hb.size⟩, h.many⟩
  obtain ⟨b, p, g1, g2, g3⟩ := h2 j hj c t e
  exact ⟨b, p, g1, g2, g3.below hb⟩
/-- a word is looked up where its first byte stands -/
def LookR (kv : List (List UInt8 × ByteArray)) (c : UInt8) (r : List UInt8) : ByteArray × Nat × Bool :=
  match pairF kv c with
  | some (t, v) => if t.isPrefixOf r = true then (B v, 1 + t.length, true) else (⟨#[]⟩, 0, false)
  | none => (⟨#[]⟩, 0, false)
theorem look_c {kv : List (List UInt8 × ByteArray)} {br bt ts : Nat} {W : World} (h : TrieAt kv br bt ts W) (c : UInt8) (r : List UInt8) (hr : r.length ≤ 100000) (hp : (pairF kv c).isSome = true) :
    Calls Tryd.prog 133 #[.pointer (some ⟨br, 0, none⟩), .string (B (c :: r)), .bool false] W fun e w' => e = .returned (.tuple #[.string (LookR kv c r).1, .int .i64 ((LookR kv c r).2.1 : Int), .bool (LookR kv c r).2.2]) ∧ ∃ k, w' = W.drewN k := by
  obtain ⟨tv, htv⟩ := Option.isSome_iff_exists.1 hp
  obtain ⟨t, v⟩ := tv
  obtain ⟨j, hj, e1, e2⟩ := pairF_some htv
  obtain ⟨T, h1, h2, h3⟩ := h.tab
  obtain ⟨b, p, g1, g2, g3⟩ := h2 j hj c t e1
  have hu := used_of hj e1
  have hm : cntU (keysU kv kv.length) c.toNat < ts := by
    rw [h.many.1]; exact cnt_lt _ hu c.toNat_lt
  have hrm : replF (keysU kv kv.length) ts bt (6 + c.toNat) = .int .u8 ((cntU (keysU kv kv.length) c.toNat : Nat) : Int) := by
    rw [replF_map _ _ _ _ c.toNat_lt]
    simp only [mapV, hu, if_true]
  have hc0 : ∀ h, (B (c :: r))[0]'h = c := fun _ => rfl
  have hx : (B (c :: r)).extract 1 (B (c :: r)).size = B r := by rw [B_extract]; simp
  have htl : t.length ≤ 1000 := by
    have := h.lens _ (List.getElem_mem hj)
    rw [e1] at this; simp at this; omega
  have hts := h.many.2
  rw [e2] at g3
  obtain ⟨_, _, g3⟩ := g3
  unfold LookR
  rw [htv]
  simp only
  rcases g3 with ⟨rfl, g3⟩ | ⟨hne, b2, _, _, g3, g4⟩
  · have := lookup_leaf br bt ts _ b _ T (B (c :: r)) (B v) p W (by simp) (by simp; omega) h.root h1 (by omega) hm g1 rfl rfl rfl (by rw [hc0]; exact hrm) g2 g3
    simpa using this
  · have hne' : ¬ (B t).toList = [] := by simpa using hne
    cases hpre : t.isPrefixOf r with
    | true =>
      have hle : t.length ≤ r.length := (List.isPrefixOf_iff_prefix.1 hpre).length_le
      have := lookup_tail br bt ts _ b _ T (B (c :: r)) (B v) (B t) p W (by simp) (by simp; omega) h.root h1 (by omega) hm g1 rfl rfl rfl (by rw [hc0]; exact hrm) g2 b2 hne' (by simpa using htl) g3 g4 (by rw [hx, B_data, B_data]; exact hpre) (by rw [hx]; simpa using hle)
      simpa using this
    | false =>
      have := lookup_miss br bt ts _ b _ T (B (c :: r)) (B v) (B t) p W (by simp) (by simp; omega) h.root h1 (by omega) hm g1 rfl rfl rfl (by rw [hc0]; exact hrm) g2 b2 hne' (by simpa using htl) g3 (by rw [hx, B_data, B_data]; exact hpre)
      simpa using this
/-- where no word begins with a byte the table says so -/
theorem none_c {kv : List (List UInt8 × ByteArray)} {br bt ts : Nat} {W : World} (h : TrieAt kv br bt ts W) (c : UInt8) (hp : pairF kv c = none) :
    ∃ m : Nat, W.cell? ⟨br, 6 + c.toNat, none⟩ = some (.int .u8 (m : Int)) ∧ (m = ts ∨ (m < ts ∧ W.cell? ⟨bt, m, none⟩ = some (.pointer none))) := by
  obtain ⟨T, h1, h2, h3⟩ := h.tab
  have hc := h.root.cell (6 + c.toNat) (by have := c.toNat_lt; omega)
  rw [replF_map _ _ _ _ c.toNat_lt] at hc
  unfold mapV at hc
  refine ⟨_, hc, ?_⟩
  cases hu : usedB (keysU kv kv.length) c.toNat with
  | false => exact .inl (by simp)
  | true =>
    refine .inr ?_
    simp only [if_true]
    have hm : cntU (keysU kv kv.length) c.toNat < ts := by
      rw [h.many.1]; exact cnt_lt _ hu c.toNat_lt
    refine ⟨hm, ?_⟩
    rw [h1.cell _ hm, h3 _ hm]
    intro j hj d t e
    exact cnt_inj (used_of hj e) hu fun e' => pairF_none hp j hj d t e (UInt8.toNat_inj.1 e')
theorem some_c {kv : List (List UInt8 × ByteArray)} {br bt ts : Nat} {W : World} (h : TrieAt kv br bt ts W) (c : UInt8) (hp : (pairF kv c).isSome = true) :
    ∃ m b : Nat, W.cell? ⟨br, 6 + c.toNat, none⟩ = some (.int .u8 (m : Int)) ∧ m < ts ∧ W.cell? ⟨bt, m, none⟩ = some (.pointer (some ⟨b, 0, none⟩)) := by
  obtain ⟨tv, htv⟩ := Option.isSome_iff_exists.1 hp
  obtain ⟨t, v⟩ := tv
  obtain ⟨j, hj, e1, e2⟩ := pairF_some htv
  obtain ⟨T, h1, h2, h3⟩ := h.tab
  obtain ⟨b, p, g1, g2, g3⟩ := h2 j hj c t e1
  have hu := used_of hj e1
  have hm : cntU (keysU kv kv.length) c.toNat < ts := by
    rw [h.many.1]; exact cnt_lt _ hu c.toNat_lt
  have hc := h.root.cell (6 + c.toNat) (by have := c.toNat_lt; omega)
  rw [replF_map _ _ _ _ c.toNat_lt] at hc
  simp only [mapV, hu, if_true] at hc
  exact ⟨_, b, hc, hm, by rw [h1.cell _ hm, g2]⟩
end Go.Proofs.YtajfpegacbohdaaDoor.Hand
