/-
  WORDS FOR MEMORY: who owns which block ('own': a tag a block), what one step may turn ('Evo'), a row of cells that the call owns ('Row'), what can be read ('RdU', 'RdUU'). No walk here.
-/
import Derived.Test.Qxb6615552aRows
import Derived.WalkKit
import Derived.WalkSpells
import Derived.WalkLawsBesides
import Derived.Deep.AppendLies
import Derived.Laws.CopyOwn
namespace Go.Proofs.Qxb6615552a
open Go.RowKit

theorem hid {p : Prop} (h : p) : Hid p := h

/-- What may turn between two worlds: only blocks whose tag meets T; no tag of an old block turns. -/
structure Evo (T : Nat × Nat → Prop) (w : World) (ow : Nat → Nat × Nat) (w' : World) (ow' : Nat → Nat × Nat) : Prop where
  os : w'.os = w.os
  tape : w'.tape = w.tape
  output : w'.output = w.output
  size : w.heap.size ≤ w'.heap.size
  same : ∀ k, k < w.heap.size → ow' k = ow k
  block : ∀ k, k < w.heap.size → ¬ T (ow k) → w'.heap[k]? = w.heap[k]?

def NoTag : Nat × Nat → Prop := fun _ => False
def OneTag (tg : Nat × Nat) : Nat × Nat → Prop := fun x => x = tg
def GrpTag (t : Nat) : Nat × Nat → Prop := fun x => x.1 = t

/-- New blocks, from n on, bear the tag tg. -/
def nw (ow : Nat → Nat × Nat) (n : Nat) (tg : Nat × Nat) : Nat → Nat × Nat := fun k => if k < n then ow k else tg

theorem nw_old {ow : Nat → Nat × Nat} {n : Nat} {tg : Nat × Nat} {k : Nat} (h : k < n) : nw ow n tg k = ow k := by simp [nw, h]
theorem nw_new {ow : Nat → Nat × Nat} {n : Nat} {tg : Nat × Nat} {k : Nat} (h : n ≤ k) : nw ow n tg k = tg := by simp [nw]; omega

theorem Evo.refl (T : Nat × Nat → Prop) (w : World) (ow : Nat → Nat × Nat) : Evo T w ow w ow := ⟨rfl, rfl, rfl, Nat.le_refl _, fun _ _ => rfl, fun _ _ _ => rfl⟩

theorem Evo.trans {T : Nat × Nat → Prop} {a b c : World} {oa ob oc : Nat → Nat × Nat} (h : Evo T a oa b ob) (k : Evo T b ob c oc) : Evo T a oa c oc :=
  ⟨k.os.trans h.os, k.tape.trans h.tape, k.output.trans h.output, Nat.le_trans h.size k.size,
    fun i hi => (k.same i (Nat.lt_of_lt_of_le hi h.size)).trans (h.same i hi),
    fun i hi hT => (k.block i (Nat.lt_of_lt_of_le hi h.size) (by rw [h.same i hi]; exact hT)).trans (h.block i hi hT)⟩

theorem Evo.mono {T T' : Nat × Nat → Prop} {a b : World} {oa ob : Nat → Nat × Nat} (h : Evo T a oa b ob) (hT : ∀ x, T x → T' x) : Evo T' a oa b ob :=
  ⟨h.os, h.tape, h.output, h.size, h.same, fun i hi hn => h.block i hi fun hx => hn (hT _ hx)⟩

theorem Evo.none {T : Nat × Nat → Prop} {a b : World} {oa ob : Nat → Nat × Nat} (h : Evo NoTag a oa b ob) : Evo T a oa b ob := h.mono fun _ hx => hx.elim

/-- Tags may be laid anew on blocks that are not there yet. -/
theorem Evo.retag (T : Nat × Nat → Prop) (w : World) (ow : Nat → Nat × Nat) (tg : Nat × Nat) : Evo T w ow w (nw ow w.heap.size tg) :=
  ⟨rfl, rfl, rfl, Nat.le_refl _, fun _ hk => nw_old hk, fun _ _ _ => rfl⟩

theorem Evo.alloc (T : Nat × Nat → Prop) (w : World) (ow : Nat → Nat × Nat) (o : Obj) : Evo T w ow (w.alloc o) ow :=
  ⟨rfl, rfl, rfl, by simp, fun _ _ => rfl, fun k hk _ => Below.heap_alloc _ _ _ hk⟩

theorem Evo.drew (T : Nat × Nat → Prop) (w : World) (ow : Nat → Nat × Nat) : Evo T w ow w.drew ow :=
  ⟨rfl, rfl, rfl, Nat.le_refl _, fun _ _ => rfl, fun _ _ _ => rfl⟩

theorem Evo.setCell {T : Nat × Nat → Prop} (w : World) (ow : Nat → Nat × Nat) (a : Addr) (u : Value) (h : T (ow a.block)) : Evo T w ow (w.setCell a u) ow :=
  ⟨rfl, rfl, rfl, by simp, fun _ _ => rfl, fun k _ hn => Below.heap_setCell _ _ _ _ fun e => hn (by rw [e]; exact h)⟩

theorem Evo.setRow {T : Nat × Nat → Prop} (w : World) (ow : Nat → Nat × Nat) (g : Nat) (cs : Array Value) (h : T (ow g)) : Evo T w ow (w.setRow g cs) ow :=
  ⟨rfl, rfl, rfl, by simp [World.setRow], fun _ _ => rfl, fun k _ hn => setRow_other w g k cs fun e => hn (by rw [e]; exact h)⟩

/-- Behind a law of the kit's that ends in 'grownBy'. -/
theorem Evo.grown {T : Nat × Nat → Prop} {w w' : World} (ow : Nat → Nat × Nat) {row : Option Nat} (hg : w.grownBy w' row) (h : ∀ k, row = some k → T (ow k)) : Evo T w ow w' ow :=
  ⟨hg.os, hg.tape, hg.output, hg.size, fun _ _ => rfl, fun k hk hn => hg.block k hk fun e => hn (h k e.symm)⟩

theorem Evo.below {T : Nat × Nat → Prop} {w w' : World} {ow ow' : Nat → Nat × Nat} {B : Nat} (h : Evo T w ow w' ow') (hB : B ≤ w.heap.size) (hT : ∀ k, k < B → ¬ T (ow k)) : Below B w w' :=
  ⟨h.os, h.tape, h.output, h.size, fun k hk => h.block k (by omega) (hT k hk)⟩

theorem Evo.cell {T : Nat × Nat → Prop} {w w' : World} {ow ow' : Nat → Nat × Nat} (h : Evo T w ow w' ow') {a : Addr} {v : Value} (hc : w.cell? a = some v) (hT : ¬ T (ow a.block)) : w'.cell? a = some v :=
  (World.cell?_of_block (h.block a.block (World.block_lt_of_cell? w a hc) hT)).trans hc

theorem Evo.frozen {T : Nat × Nat → Prop} {w w' : World} {ow ow' : Nat → Nat × Nat} (h : Evo T w ow w' ow') {a : Addr} {v : Value} (hc : w.cell? a = some v) (hT : ¬ T (ow a.block)) : w'.frozen? a = w.frozen? a :=
  World.frozen?_of_block (h.block a.block (World.block_lt_of_cell? w a hc) hT)

theorem Evo.heap {T : Nat × Nat → Prop} {w w' : World} {ow ow' : Nat → Nat × Nat} (h : Evo T w ow w' ow') {g : Nat} {o : Obj} (hg : w.heap[g]? = some o) (hT : ¬ T (ow g)) : w'.heap[g]? = some o :=
  (h.block g (Array.getElem?_eq_some_iff.1 hg).1 hT).trans hg

/-- A row of cells that the call owns: the slice value v (nil, or at the head of a block that bears the tag tg) whose elements, one cell each, are ys. -/
def Row (w : World) (ow : Nat → Nat × Nat) (tg : Nat × Nat) (e : TypeId) (v : Value) (ys : List Value) : Prop :=
  w.ownsRow 0 e 1 v ys.length ys ∧ ∀ g, v.ownBlock = some g → ow g = tg

theorem Row.nil (w : World) (ow : Nat → Nat × Nat) (tg : Nat × Nat) (e : TypeId) : Row w ow tg e (.slice none 0 0) [] :=
  ⟨World.ownsRow_nil _ _ _ _, fun g h => by simp [Value.ownBlock] at h⟩

theorem Row.evo {T : Nat × Nat → Prop} {w w' : World} {ow ow' : Nat → Nat × Nat} {tg : Nat × Nat} {e : TypeId} {v : Value} {ys : List Value} (h : Row w ow tg e v ys) (hE : Evo T w ow w' ow') (hT : ¬ T tg) : Row w' ow' tg e v ys := by
  obtain ⟨⟨hl, hv⟩, ht⟩ := h
  rcases hv with ⟨rfl, h0⟩ | ⟨g, cap, cur, rfl, hb, hg, r⟩
  · exact ⟨⟨hl, .inl ⟨rfl, h0⟩⟩, fun g hg => by simp [Value.ownBlock] at hg⟩
  · have hlt := (Array.getElem?_eq_some_iff.1 hg).1
    have htg := ht g rfl
    refine ⟨⟨hl, .inr ⟨g, cap, cur, rfl, hb, (hE.block g hlt (by rw [htg]; exact hT)).trans hg, r⟩⟩, fun g' hg' => ?_⟩
    have : g = g' := by simpa [Value.ownBlock] using hg'
    subst this
    rw [hE.same g hlt, htg]

theorem Row.form {w : World} {ow : Nat → Nat × Nat} {tg : Nat × Nat} {e : TypeId} {v : Value} {ys : List Value} (h : Row w ow tg e v ys) :
    (v = .slice none 0 0 ∧ ys = []) ∨ ∃ g cap, v = .slice (some ⟨g, 0, none⟩) ys.length cap ∧ ow g = tg ∧ g < w.heap.size ∧ ys.length ≤ cap ∧ cap ≤ maxLen := by
  rcases h.1.2 with ⟨hv, h0⟩ | ⟨g, cap, cur, hv, _, hg, hc, hm, _⟩
  · exact .inl ⟨hv, List.eq_nil_of_length_eq_zero h0⟩
  · exact .inr ⟨g, cap, hv, h.2 g (by rw [hv]; rfl), (Array.getElem?_eq_some_iff.1 hg).1, hc, hm⟩

theorem Row.cell {w : World} {ow : Nat → Nat × Nat} {tg : Nat × Nat} {e : TypeId} {g n cap : Nat} {ys : List Value} (h : Row w ow tg e (.slice (some ⟨g, 0, none⟩) n cap) ys) {j : Nat} {u : Value} (hu : ys[j]? = some u) : w.cell? ⟨g, j, none⟩ = some u := by
  have hj := (List.getElem?_eq_some_iff.1 hu).1
  have hn : n = ys.length := by
    rcases h.form with ⟨hv, _⟩ | ⟨g', cap', hv, _⟩
    · cases hv
    · cases hv; rfl
  subst hn
  rw [h.1.cellAt j (by omega), hu]

theorem Row.frozen {w : World} {ow : Nat → Nat × Nat} {tg : Nat × Nat} {e : TypeId} {g n cap : Nat} {ys : List Value} (h : Row w ow tg e (.slice (some ⟨g, 0, none⟩) n cap) ys) (j : Nat) : w.frozen? ⟨g, j, none⟩ = false := by
  have hn : n = ys.length := by
    rcases h.form with ⟨hv, _⟩ | ⟨g', cap', hv, _⟩
    · cases hv
    · cases hv; rfl
  subst hn
  exact h.1.frozenAt j

theorem Row.set {w : World} {ow : Nat → Nat × Nat} {tg : Nat × Nat} {e : TypeId} {g n cap : Nat} {ys : List Value} (h : Row w ow tg e (.slice (some ⟨g, 0, none⟩) n cap) ys) (j : Nat) (u : Value) :
    Row (w.setCell ⟨g, j, none⟩ u) ow tg e (.slice (some ⟨g, 0, none⟩) n cap) (ys.set j u) ∧ Evo (OneTag tg) w ow (w.setCell ⟨g, j, none⟩ u) ow := by
  have hn : n = ys.length := by
    rcases h.form with ⟨hv, _⟩ | ⟨g', cap', hv, _⟩
    · cases hv
    · cases hv; rfl
  subst hn
  refine ⟨⟨?_, h.2⟩, Evo.setCell _ _ _ _ (h.2 g rfl)⟩
  have := (h.1.stored j u).1
  simpa using this

/-- A block that was not there when the call began is written: nothing old turns. -/
theorem Evo.fresh {T : Nat × Nat → Prop} {w w1 w2 : World} {ow ow1 : Nat → Nat × Nat} {g : Nat} (h : Evo T w ow w1 ow1) (hg : w1.grownBy w2 (some g)) (hn : w.heap.size ≤ g) : Evo T w ow w2 ow1 :=
  ⟨hg.os.trans h.os, hg.tape.trans h.tape, hg.output.trans h.output, Nat.le_trans h.size hg.size, h.same,
    fun k hk hT => (hg.block k (Nat.lt_of_lt_of_le hk h.size) (fun e => by cases e; omega)).trans (h.block k hk hT)⟩

theorem grownBy_setCell (w : World) (g j : Nat) (u : Value) : w.grownBy (w.setCell ⟨g, j, Option.none⟩ u) (some g) :=
  ⟨rfl, rfl, rfl, by simp, fun i _ hi => heap_setCell_other _ ⟨g, j, Option.none⟩ i u (fun e => hi (by simp [e]))⟩

/-- 'make': what the kit's law leaves, in this text's words. -/
theorem Row.made {w w1 : World} {ow : Nat → Nat × Nat} {tg : Nat × Nat} {e : TypeId} {z : Value} {n : Nat}
    (hown : w1.ownsRow 0 e 1 (.slice (some ⟨w.heap.size, 0, none⟩) n n) n (madeCells #[z] n).toList) (hgrow : w.grownBy w1 Option.none) :
    Row w1 (nw ow w.heap.size tg) tg e (.slice (some ⟨w.heap.size, 0, none⟩) n n) (List.replicate n z) ∧ Evo NoTag w ow w1 (nw ow w.heap.size tg) := by
  rw [toList_madeCells_one] at hown
  refine ⟨⟨by simpa using hown, fun g hg => ?_⟩, (Evo.retag NoTag w ow tg).trans (Evo.grown _ hgrow fun k hk => by cases hk)⟩
  have : w.heap.size = g := by simpa [Value.ownBlock] using hg
  subst this
  exact nw_new (Nat.le_refl _)

/-- 'append': what the kit's law leaves, in this text's words. -/
theorem Row.appended {w w1 : World} {ow : Nat → Nat × Nat} {tg : Nat × Nat} {e : TypeId} {v : Value} {ys news : List Value} {g n cap : Nat} (h : Row w ow tg e v ys)
    (hown : w1.ownsRow 0 e 1 (.slice (some ⟨g, 0, none⟩) n cap) n (ys ++ news)) (hn : n = ys.length + news.length) (hgrow : w.grownBy w1 v.ownBlock) (hat : v.ownBlock = some g ∨ w.heap.size ≤ g) :
    Row w1 (nw ow w.heap.size tg) tg e (.slice (some ⟨g, 0, none⟩) n cap) (ys ++ news) ∧ Evo (OneTag tg) w ow w1 (nw ow w.heap.size tg) := by
  subst hn
  have hlt : ∀ k, v.ownBlock = some k → k < w.heap.size := fun k hk => (h.1.lt k hk).2
  refine ⟨⟨by simpa using hown, fun g' hg' => ?_⟩, (Evo.retag _ w ow tg).trans (Evo.grown _ hgrow fun k hk => ?_)⟩
  · have : g = g' := by simpa [Value.ownBlock] using hg'
    subst this
    rcases hat with hat | hat
    · rw [nw_old (hlt g hat)]; exact h.2 g hat
    · exact nw_new hat
  · rw [nw_old (hlt k hk)]; exact h.2 k hk

theorem Row.shape {w : World} {ow : Nat → Nat × Nat} {tg : Nat × Nat} {e : TypeId} {v : Value} {ys : List Value} (h : Row w ow tg e v ys) : ∃ a c, v = .slice a ys.length c := by
  rcases h.form with ⟨rfl, rfl⟩ | ⟨g, cap, rfl, _⟩
  · exact ⟨_, _, rfl⟩
  · exact ⟨_, _, rfl⟩

theorem Row.len {w : World} {ow : Nat → Nat × Nat} {tg : Nat × Nat} {e : TypeId} {a : Option Addr} {n c : Nat} {ys : List Value} (h : Row w ow tg e (.slice a n c) ys) : n = ys.length := by
  obtain ⟨_, _, hv⟩ := h.shape
  cases hv; rfl

/-- A block of the call's own (a struct behind a pointer) whose cell k holds v. -/
def Box (w : World) (ow : Nat → Nat × Nat) (tg : Nat × Nat) (b k : Nat) (v : Value) : Prop :=
  ow b = tg ∧ ∃ cur ty, w.heap[b]? = some (.cells cur ty (0, 0)) ∧ cur[k]? = some v

theorem Box.evo {T : Nat × Nat → Prop} {w w' : World} {ow ow' : Nat → Nat × Nat} {tg : Nat × Nat} {b k : Nat} {v : Value} (h : Box w ow tg b k v) (hE : Evo T w ow w' ow') (hT : ¬ T tg) : Box w' ow' tg b k v := by
  obtain ⟨ht, cur, ty, hb, hc⟩ := h
  have hlt := (Array.getElem?_eq_some_iff.1 hb).1
  exact ⟨by rw [hE.same b hlt, ht], cur, ty, hE.heap hb (by rw [ht]; exact hT), hc⟩

theorem Box.cell {w : World} {ow : Nat → Nat × Nat} {tg : Nat × Nat} {b k : Nat} {v : Value} (h : Box w ow tg b k v) : w.cell? ⟨b, k, none⟩ = some v := by
  obtain ⟨_, cur, ty, hb, hc⟩ := h
  rw [cell_of_row w b k cur ty (0, 0) hb, hc]

theorem Box.frozen {w : World} {ow : Nat → Nat × Nat} {tg : Nat × Nat} {b k : Nat} {v : Value} (h : Box w ow tg b k v) (j : Nat) : w.frozen? ⟨b, j, none⟩ = false := by
  obtain ⟨_, cur, ty, hb, _⟩ := h
  exact frozen_of_row w b j cur ty hb

theorem Box.set {w : World} {ow : Nat → Nat × Nat} {tg : Nat × Nat} {b k : Nat} {v : Value} (h : Box w ow tg b k v) (u : Value) : Box (w.setCell ⟨b, k, none⟩ u) ow tg b k u ∧ Evo (OneTag tg) w ow (w.setCell ⟨b, k, none⟩ u) ow := by
  obtain ⟨ht, cur, ty, hb, hc⟩ := h
  have hk := (Array.getElem?_eq_some_iff.1 hc).1
  exact ⟨⟨ht, _, ty, heap_setCell_same w b k cur ty u hb, by simp [hk]⟩, Evo.setCell _ _ _ _ ht⟩

/-- A store into another cell of the same block. -/
theorem Box.other {w : World} {ow : Nat → Nat × Nat} {tg : Nat × Nat} {b k j : Nat} {v : Value} (h : Box w ow tg b k v) (u : Value) (hj : j ≠ k) : Box (w.setCell ⟨b, j, none⟩ u) ow tg b k v := by
  obtain ⟨ht, cur, ty, hb, hc⟩ := h
  exact ⟨ht, _, ty, heap_setCell_same w b j cur ty u hb, by rw [Array.getElem?_setIfInBounds_ne hj]; exact hc⟩

/-- What a slice of bytes reads as, whoever owns it. -/
def RdB (w : World) (v : Value) (xs : List Int) : Prop :=
  ∃ a cap, v = .slice a xs.length cap ∧ (a = Option.none → xs = [] ∧ cap = 0) ∧ xs.length ≤ maxLen ∧ (0 < xs.length → ∃ b off, a = some ⟨b, off, Option.none⟩ ∧ ∀ i, i < xs.length → w.cell? ⟨b, off + i, Option.none⟩ = some (.int .u8 (xs.getD i 0)))

theorem RdB.below {B : Nat} {w w' : World} {v : Value} {xs : List Int} (h : RdB w v xs) (hB : Below B w w') (hs : w.heap.size ≤ B) : RdB w' v xs := by
  obtain ⟨a, cap, hv, h0, hm, hc⟩ := h
  exact ⟨a, cap, hv, h0, hm, fun hp => let ⟨b, off, ha, hcell⟩ := hc hp; ⟨b, off, ha, fun i hi => (hB.cell (p := ⟨b, off + i, Option.none⟩) (Nat.lt_of_lt_of_le (World.block_lt_of_cell? w _ (hcell i hi)) hs)).trans (hcell i hi)⟩⟩

end Go.Proofs.Qxb6615552a
