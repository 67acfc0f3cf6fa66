/-
  SORTED KEYS: words (what a slice of strings reads as, what a map holds), and the plain laws. No walk here.
-/
import Derived.Test.Qxb6615552aLess
import Derived.Maps.OwnSet
import Derived.Maps.StringElems
import Derived.StringKeys
import Derived.Sort.KeysCollected
import Derived.Sort.OwnSorted
namespace Go.Proofs.Qxb6615552a
open Go.RowKit Go.Maps
set_option maxRecDepth 100000

/-! ### The order -/
theorem ba_ext {s t : ByteArray} (h : s.data.toList = t.data.toList) : s = t := by
  cases s; cases t
  simp at h
  subst h; rfl
theorem ltB_irr (s : ByteArray) : ltB s s = false := by
  unfold ltB; exact decide_eq_false (List.lt_irrefl _)
theorem ltB_trans {a b c : ByteArray} (h : ltB a b = true) (k : ltB b c = true) : ltB a c = true := by
  unfold ltB at *; rw [decide_eq_true_eq] at *; exact List.lt_trans h k
theorem ltB_tri {a b : ByteArray} (h : ltB a b = false) (k : ltB b a = false) : a = b := by
  unfold ltB at *; rw [decide_eq_false_iff_not] at *
  exact ba_ext (List.le_antisymm (List.not_lt.1 k) (List.not_lt.1 h))

/-- Strictly sorted. -/
def Srt (xs : List ByteArray) : Prop := xs.Pairwise fun a b => ltB a b = true

theorem Srt.nodup {xs : List ByteArray} (h : Srt xs) : xs.Nodup := by
  refine List.pairwise_iff_getElem.2 fun i j h1 h2 hij e => ?_
  have hab := (List.pairwise_iff_getElem.1 h) i j h1 h2 hij
  rw [e, ltB_irr] at hab; cases hab

/-- Two strictly sorted lists with the same members are one. -/
theorem Srt.same {xs ys : List ByteArray} (h : Srt xs) (k : Srt ys) (hm : ∀ x, x ∈ xs ↔ x ∈ ys) : xs = ys := by
  refine List.Perm.eq_of_pairwise (le := fun a b => ltB a b = true) (fun a b _ _ h1 h2 => ?_) h k ((List.perm_ext_iff_of_nodup h.nodup k.nodup).2 hm)
  have := ltB_trans h1 h2
  rw [ltB_irr] at this; cases this

theorem Srt.less {xs : List ByteArray} (h : Srt xs) {i j : Nat} {a b : ByteArray} (hij : i < j) (ha : xs[i]? = some a) (hb : xs[j]? = some b) : ltB a b = true := by
  obtain ⟨h1, rfl⟩ := List.getElem?_eq_some_iff.1 ha
  obtain ⟨h2, rfl⟩ := List.getElem?_eq_some_iff.1 hb
  exact (List.pairwise_iff_getElem.1 h) i j h1 h2 hij

theorem sat {xs : List ByteArray} {k : Nat} (h : k < xs.length) : ∃ x, xs[k]? = some x := ⟨xs[k], by simp⟩

/-! ### Merging: the loop's word -/
structure MInv (xs ys : List ByteArray) (i j : Nat) (os : List ByteArray) : Prop where
  hi : i ≤ xs.length
  hj : j ≤ ys.length
  srt : Srt os
  len : os.length ≤ i + j
  mem : ∀ x, x ∈ os ↔ x ∈ xs.take i ∨ x ∈ ys.take j
  lo1 : ∀ x ∈ os, ∀ y ∈ xs.drop i, ltB x y = true
  lo2 : ∀ x ∈ os, ∀ y ∈ ys.drop j, ltB x y = true

theorem MInv.start (xs ys : List ByteArray) : MInv xs ys 0 0 [] := ⟨Nat.zero_le _, Nat.zero_le _, List.Pairwise.nil, by simp, by simp, by simp, by simp⟩
theorem MInv.turn {xs ys : List ByteArray} {i j : Nat} {os : List ByteArray} (h : MInv xs ys i j os) : MInv ys xs j i os :=
  ⟨h.hj, h.hi, h.srt, by have := h.len; omega, fun x => by rw [h.mem, or_comm], h.lo2, h.lo1⟩

theorem mem_take_succ {xs : List ByteArray} {i : Nat} {a : ByteArray} (ha : xs[i]? = some a) (x : ByteArray) : x ∈ xs.take (i + 1) ↔ x ∈ xs.take i ∨ x = a := by
  obtain ⟨h1, rfl⟩ := List.getElem?_eq_some_iff.1 ha
  rw [List.take_succ_eq_append_getElem h1, List.mem_append, List.mem_singleton]
theorem drop_at {xs : List ByteArray} {i : Nat} {a : ByteArray} (ha : xs[i]? = some a) : xs.drop i = a :: xs.drop (i + 1) := by
  obtain ⟨h1, rfl⟩ := List.getElem?_eq_some_iff.1 ha
  exact List.drop_eq_getElem_cons h1
theorem Srt.drop_lt {xs : List ByteArray} (h : Srt xs) {i : Nat} {a : ByteArray} (ha : xs[i]? = some a) : ∀ y ∈ xs.drop (i + 1), ltB a y = true := by
  have hs : Srt (xs.drop i) := List.Pairwise.sublist (List.drop_sublist i xs) h
  rw [drop_at ha] at hs
  exact (List.pairwise_cons.1 hs).1
theorem Srt.snoc {os : List ByteArray} (h : Srt os) {a : ByteArray} (hl : ∀ x ∈ os, ltB x a = true) : Srt (os ++ [a]) :=
  List.pairwise_append.2 ⟨h, List.pairwise_singleton _ _, fun x hx y hy => by simp at hy; subst hy; exact hl x hx⟩

/-- The next of the first list goes over. -/
theorem MInv.fromA {xs ys : List ByteArray} (sx : Srt xs) (sy : Srt ys) {i j : Nat} {os : List ByteArray} (h : MInv xs ys i j os) {a : ByteArray} (ha : xs[i]? = some a) (hlt : j = ys.length ∨ ∃ b, ys[j]? = some b ∧ ltB a b = true) : MInv xs ys (i + 1) j (os ++ [a]) := by
  have hi1 := (List.getElem?_eq_some_iff.1 ha).1
  have hda := drop_at ha
  refine ⟨hi1, h.hj, h.srt.snoc fun x hx => h.lo1 x hx a (by rw [hda]; simp), by have := h.len; simp; omega, fun x => ?_, fun x hx y hy => ?_, fun x hx y hy => ?_⟩
  · rw [List.mem_append, h.mem, mem_take_succ ha]
    simp only [List.mem_singleton]
    constructor
    · rintro ((h | h) | h)
      · exact .inl (.inl h)
      · exact .inr h
      · exact .inl (.inr h)
    · rintro ((h | h) | h)
      · exact .inl (.inl h)
      · exact .inr h
      · exact .inl (.inr h)
  · rcases List.mem_append.1 hx with hx | hx
    · exact h.lo1 x hx y (by rw [hda]; exact List.mem_cons_of_mem _ hy)
    · simp at hx; subst hx; exact sx.drop_lt ha y hy
  · rcases List.mem_append.1 hx with hx | hx
    · exact h.lo2 x hx y hy
    · simp at hx; subst hx
      rcases hlt with rfl | ⟨b, hb, hab⟩
      · simp at hy
      · rw [drop_at hb] at hy
        rcases List.mem_cons.1 hy with rfl | hy
        · exact hab
        · exact ltB_trans hab (sy.drop_lt hb y hy)

/-- Both lists' next is the same: it goes over once. -/
theorem MInv.fromAB {xs ys : List ByteArray} (sx : Srt xs) (sy : Srt ys) {i j : Nat} {os : List ByteArray} (h : MInv xs ys i j os) {a : ByteArray} (ha : xs[i]? = some a) (hb : ys[j]? = some a) : MInv xs ys (i + 1) (j + 1) (os ++ [a]) := by
  have hi1 := (List.getElem?_eq_some_iff.1 ha).1
  have hj1 := (List.getElem?_eq_some_iff.1 hb).1
  have hda := drop_at ha
  have hdb := drop_at hb
  refine ⟨hi1, hj1, h.srt.snoc fun x hx => h.lo1 x hx a (by rw [hda]; simp), by have := h.len; simp; omega, fun x => ?_, fun x hx y hy => ?_, fun x hx y hy => ?_⟩
  · rw [List.mem_append, h.mem, mem_take_succ ha, mem_take_succ hb]
    simp only [List.mem_singleton]
    constructor
    · rintro ((h | h) | h)
      · exact .inl (.inl h)
      · exact .inr (.inl h)
      · exact .inl (.inr h)
    · rintro ((h | h) | (h | h))
      · exact .inl (.inl h)
      · exact .inr h
      · exact .inl (.inr h)
      · exact .inr h
  · rcases List.mem_append.1 hx with hx | hx
    · exact h.lo1 x hx y (by rw [hda]; exact List.mem_cons_of_mem _ hy)
    · simp at hx; subst hx; exact sx.drop_lt ha y hy
  · rcases List.mem_append.1 hx with hx | hx
    · exact h.lo2 x hx y (by rw [hdb]; exact List.mem_cons_of_mem _ hy)
    · simp at hx; subst hx; exact sy.drop_lt hb y hy

theorem MInv.ended {xs ys : List ByteArray} {os : List ByteArray} (h : MInv xs ys xs.length ys.length os) : Srt os ∧ ∀ x, x ∈ os ↔ x ∈ xs ∨ x ∈ ys := ⟨h.srt, fun x => by rw [h.mem, List.take_length, List.take_length]⟩

/-! ### Inserting -/
theorem take_ins {xs : List ByteArray} (sx : Srt xs) {k : ByteArray} {i : Nat} (_hi : i ≤ xs.length) (hlo : ∀ x ∈ xs.take i, ltB x k = true) (hhi : ∀ a, xs[i]? = some a → ltB a k = false ∧ a ≠ k) :
    Srt (xs.take i ++ [k] ++ xs.drop i) ∧ ∀ x, x ∈ xs.take i ++ [k] ++ xs.drop i ↔ x ∈ xs ∨ x = k := by
  have h1 : Srt (xs.take i) := List.Pairwise.sublist (List.take_sublist i xs) sx
  have h2 : Srt (xs.drop i) := List.Pairwise.sublist (List.drop_sublist i xs) sx
  have h3 : ∀ y ∈ xs.drop i, ltB k y = true := by
    cases hx : xs[i]? with
    | none => intro y hy; rw [List.drop_eq_nil_of_le (List.getElem?_eq_none_iff.1 hx)] at hy; cases hy
    | some a =>
      obtain ⟨ha1, ha2⟩ := hhi a hx
      have hka : ltB k a = true := by
        cases h : ltB k a with
        | true => rfl
        | false => exact absurd (ltB_tri ha1 h) ha2
      intro y hy
      rw [drop_at hx] at hy
      rcases List.mem_cons.1 hy with rfl | hy
      · exact hka
      · exact ltB_trans hka (sx.drop_lt hx y hy)
  refine ⟨List.pairwise_append.2 ⟨h1.snoc hlo, h2, fun x hx y hy => ?_⟩, fun x => ?_⟩
  · rcases List.mem_append.1 hx with hx | hx
    · exact ltB_trans (hlo x hx) (h3 y hy)
    · simp at hx; subst hx; exact h3 y hy
  · have h4 : x ∈ xs ↔ x ∈ xs.take i ∨ x ∈ xs.drop i := by rw [← List.mem_append, List.take_append_drop]
    rw [h4]
    simp only [List.mem_append, List.mem_singleton]
    constructor
    · rintro ((h | h) | h)
      · exact .inl (.inl h)
      · exact .inr h
      · exact .inl (.inr h)
    · rintro ((h | h) | h)
      · exact .inl (.inl h)
      · exact .inr h
      · exact .inl (.inr h)

/-! ### Memory -/
/-- The row at the head of block g reads as xs. -/
def RdS (w : World) (g : Nat) (xs : List ByteArray) : Prop := g < w.heap.size ∧ ∀ i x, xs[i]? = some x → w.cell? ⟨g, i, none⟩ = some (.string x)

theorem RdS.below {w w' : World} {g : Nat} {xs : List ByteArray} (h : RdS w g xs) (hb : Below w.heap.size w w') : RdS w' g xs :=
  ⟨Nat.lt_of_lt_of_le h.1 hb.size, fun i x hx => (hb.cell (p := ⟨g, i, none⟩) h.1).trans (h.2 i x hx)⟩
/-- Another block alone is written. -/
theorem RdS.grown {w w' : World} {g b : Nat} {xs : List ByteArray} (h : RdS w g xs) (hg : w.grownBy w' (some b)) (hne : g ≠ b) : RdS w' g xs :=
  ⟨Nat.lt_of_lt_of_le h.1 hg.size, fun i x hx => (World.cell?_of_block (hg.block g h.1 (fun e => hne (by cases e; rfl)))).trans (h.2 i x hx)⟩
theorem RdS.of_row {w : World} {base g n cap : Nat} {xs : List ByteArray} (h : w.ownsRow base 9 1 (.slice (some ⟨g, 0, none⟩) n cap) xs.length (xs.map Value.string)) : RdS w g xs := by
  have hlt := (h.lt g rfl).2
  refine ⟨hlt, fun i x hx => ?_⟩
  rcases h.2 with ⟨hv, _⟩ | ⟨g', cap', cur, hv, _, hgg, _, _, _, ht⟩
  · cases hv
  · cases hv
    have hi := (List.getElem?_eq_some_iff.1 hx).1
    rw [cell_of_row _ g i _ 9 (0, 0) hgg]
    have e1 : cur.toList[i]? = (cur.toList.take (xs.length * 1))[i]? := by rw [List.getElem?_take_of_lt (by omega)]
    have e2 : cur[i]? = cur.toList[i]? := by simp
    rw [e2, e1, ht]
    simp [hx]

theorem law9 : Keyed Try.prog 9 := string_keyed Try.underlying9
theorem zero9 (w : World) : (zeroValue 9).run Try.prog w = .ok (.string ⟨#[]⟩) w := by kernel_rfl

/-- The map value '.map a' in w: its keys are those that 'ks' says, n of them; a nil map has none. -/
def MapIs (w : World) (a : Option Nat) (ks : ByteArray → Bool) (n : Nat) : Prop :=
  (a = none ∧ (∀ x, ks x = false) ∧ n = 0) ∨
  ∃ (H : Type) (b N : Nat) (D : DataW H), a = some b ∧ w.ownsMap Try.prog 9 (plainElem Try.prog 9) b N D ∧ (∀ x, ks x = Maps.has D (.string x.data.toList)) ∧ n = Maps.size D

theorem ownsMap_below {H : Type} {P : Program} {k : TypeId} {R : Value → Option (DataW H × List MemPlace)} {w w' : World} {b n : Nat} {D : DataW H} (h : w.ownsMap P k R b n D) (hb : Below w.heap.size w w') : w'.ownsMap P k R b n D := by
  have hlt := h.lt
  obtain ⟨es, clock, he, r⟩ := h
  exact ⟨es, clock, (hb.block b hlt).trans he, r⟩
theorem MapIs.below {w w' : World} {a : Option Nat} {ks : ByteArray → Bool} {n : Nat} (h : MapIs w a ks n) (hb : Below w.heap.size w w') : MapIs w' a ks n := by
  rcases h with h | ⟨H, b, N, D, ha, ho, hk, hn⟩
  · exact .inl h
  · exact .inr ⟨H, b, N, D, ha, ownsMap_below ho hb, hk, hn⟩
theorem MapIs.grown {w w' : World} {a : Option Nat} {ks : ByteArray → Bool} {n : Nat} (h : MapIs w a ks n) {g : Nat} (hg : w.grownBy w' (some g)) (hne : a ≠ some g) : MapIs w' a ks n := by
  rcases h with h | ⟨H, b, N, D, ha, ho, hk, hn⟩
  · exact .inl h
  · exact .inr ⟨H, b, N, D, ha, ho.kept hg (fun e => hne (by rw [ha, e])), hk, hn⟩
theorem MapIs.drewN {w : World} {a : Option Nat} {ks : ByteArray → Bool} {n : Nat} (h : MapIs w a ks n) (m : Nat) : MapIs (w.drewN m) a ks n := h
theorem MapIs.lt {w : World} {b : Nat} {ks : ByteArray → Bool} {n : Nat} (h : MapIs w (some b) ks n) : b < w.heap.size := by
  rcases h with ⟨h, _⟩ | ⟨H, b', N, D, ha, ho, hk, hn⟩
  · cases h
  · cases ha; exact ho.lt

theorem MapIs.len {w : World} {a : Option Nat} {ks : ByteArray → Bool} {n : Nat} (h : MapIs w a ks n) (ty : TypeId) : (Builtin.len_ #[22] ty #[.map a]).run Try.prog w = .ok (.int .i64 (n : Int)) w := by
  rcases h with ⟨rfl, _, rfl⟩ | ⟨H, b, N, D, rfl, ho, _, rfl⟩
  · exact Maps.len_nil Try.underlying22 ty
  · exact ho.len Try.underlying22 ty

theorem MapIs.look {w : World} {a : Option Nat} {ks : ByteArray → Bool} {n : Nat} (h : MapIs w a ks n) {x : ByteArray} (hx : x.size ≤ maxLen) :
    ∃ s : ByteArray, s.size ≤ maxLen ∧ (Instr.lookup 22 (.map a) (.string x) false).run Try.prog w = .ok (.string s) w := by
  have hkey := WideMaps.keyOf_string_mk Try.underlying9 hx
  rcases h with ⟨rfl, _, rfl⟩ | ⟨H, b, N, D, rfl, ho, _, rfl⟩
  · exact ⟨⟨#[]⟩, by decide, by simpa using Maps.look_nil (w := w) false law9 Try.underlying22 (zero9 _) hkey⟩
  · obtain ⟨v, ps, hrun, hv⟩ := ho.lookup law9 Try.underlying22 (zero9 _) (plainElem_string Try.underlying9 (s := ⟨#[]⟩) (by decide)) hkey
    obtain ⟨s, rfl, _, hs⟩ := plainElem_string_inv Try.underlying9 hv
    exact ⟨s, hs, hrun⟩

theorem MapIs.look_ok {w : World} {a : Option Nat} {ks : ByteArray → Bool} {n : Nat} (h : MapIs w a ks n) {x : ByteArray} (hx : x.size ≤ maxLen) :
    ∃ s : ByteArray, (Instr.lookup 22 (.map a) (.string x) true).run Try.prog w = .ok (.tuple #[.string s, .bool (ks x)]) w := by
  have hkey := WideMaps.keyOf_string_mk Try.underlying9 hx
  rcases h with ⟨rfl, hk, rfl⟩ | ⟨H, b, N, D, rfl, ho, hk, rfl⟩
  · exact ⟨⟨#[]⟩, by rw [hk]; simpa using Maps.look_nil (w := w) true law9 Try.underlying22 (zero9 _) hkey⟩
  · obtain ⟨v, ps, hrun, hv⟩ := ho.look_ok law9 Try.underlying22 (zero9 _) (plainElem_string Try.underlying9 (s := ⟨#[]⟩) (by decide)) hkey
    obtain ⟨s, rfl, _, _⟩ := plainElem_string_inv Try.underlying9 hv
    exact ⟨s, by rw [hk]; exact hrun⟩

theorem run_makeMap22 (w : World) (x : Int) : (Instr.makeMap 22 (some (.int .i64 x))).run Try.prog w = .ok (.map (some w.heap.size)) (w.alloc (.map #[] 0)) := by
  simp [Instr.makeMap, run_underlying Try.underlying22, asInt, asIntOf, Result.andThen]

end Go.Proofs.Qxb6615552a
