/-
  WORDS FOR MEMORY: who owns which block ('own': a tag a block), what one step may turn ('Evo'), a row of cells that the call owns ('Row'), what can be read ('RdU', 'RdUU'). No walk here.
-/
import Derived.Test.Qxb6615079aRows
import Derived.WalkKit
import Derived.WalkSpells
import Derived.WalkLawsBesides
import Derived.Deep.AppendLies
import Derived.Laws.CopyOwn
namespace Go.Proofs.Qxb6615079a
open Go.RowKit

theorem hid {p : Prop} (h : p) : Hid p := h

/-- What may turn between two worlds: only blocks whose tag meets T; no tag of an old block turns. -/
structure Evo (T : Nat × Nat → Prop) (w : World) (ow : Nat → Nat × Nat) (w' : World) (ow' : Nat → Nat × Nat) : Prop where
  os : w'.os = w.os
  tape : w'.tape = w.tape
  output : w'.output = w.output
  size : w.heap.size ≤ w'.heap.size
  same : ∀ k, k < w.heap.size → ow' k = ow k
  block : ∀ k, k < w.heap.size → ¬ T (ow k) → w'.heap[k]? = w.heap[k]?

def NoTag : Nat × Nat → Prop := fun _ => False
def OneTag (tg : Nat × Nat) : Nat × Nat → Prop := fun x => x = tg
def GrpTag (t : Nat) : Nat × Nat → Prop := fun x => x.1 = t

/-- New blocks, from n on, bear the tag tg. -/
def nw (ow : Nat → Nat × Nat) (n : Nat) (tg : Nat × Nat) : Nat → Nat × Nat := fun k => if k < n then ow k else tg

theorem nw_old {ow : Nat → Nat × Nat} {n : Nat} {tg : Nat × Nat} {k : Nat} (h : k < n) : nw ow n tg k = ow k := by simp [nw, h]
theorem nw_new {ow : Nat → Nat × Nat} {n : Nat} {tg : Nat × Nat} {k : Nat} (h : n ≤ k) : nw ow n tg k = tg := by simp [nw]; omega

theorem Evo.refl (T : Nat × Nat → Prop) (w : World) (ow : Nat → Nat × Nat) : Evo T w ow w ow := ⟨rfl, rfl, rfl, Nat.le_refl _, fun _ _ => rfl, fun _ _ _ => rfl⟩

theorem Evo.trans {T : Nat × Nat → Prop} {a b c : World} {oa ob oc : Nat → Nat × Nat} (h : Evo T a oa b ob) (k : Evo T b ob c oc) : Evo T a oa c oc :=
  ⟨k.os.trans h.os, k.tape.trans h.tape, k.output.trans h.output, Nat.le_trans h.size k.size,
    fun i hi => (k.same i (Nat.lt_of_lt_of_le hi h.size)).trans (h.same i hi),
    fun i hi hT => (k.block i (Nat.lt_of_lt_of_le hi h.size) (by rw [h.same i hi]; exact hT)).trans (h.block i hi hT)⟩

theorem Evo.mono {T T' : Nat × Nat → Prop} {a b : World} {oa ob : Nat → Nat × Nat} (h : Evo T a oa b ob) (hT : ∀ x, T x → T' x) : Evo T' a oa b ob :=
  ⟨h.os, h.tape, h.output, h.size, h.same, fun i hi hn => h.block i hi fun hx => hn (hT _ hx)⟩

theorem Evo.none {T : Nat × Nat → Prop} {a b : World} {oa ob : Nat → Nat × Nat} (h : Evo NoTag a oa b ob) : Evo T a oa b ob := h.mono fun _ hx => hx.elim

/-- Tags may be laid anew on blocks that are not there yet. -/
theorem Evo.retag (T : Nat × Nat → Prop) (w : World) (ow : Nat → Nat × Nat) (tg : Nat × Nat) : Evo T w ow w (nw ow w.heap.size tg) :=
  ⟨rfl, rfl, rfl, Nat.le_refl _, fun _ hk => nw_old hk, fun _ _ _ => rfl⟩

theorem Evo.alloc (T : Nat × Nat → Prop) (w : World) (ow : Nat → Nat × Nat) (o : Obj) : Evo T w ow (w.alloc o) ow :=
  ⟨rfl, rfl, rfl, by simp, fun _ _ => rfl, fun k hk _ => Below.heap_alloc _ _ _ hk⟩

theorem Evo.drew (T : Nat × Nat → Prop) (w : World) (ow : Nat → Nat × Nat) : Evo T w ow w.drew ow :=
  ⟨rfl, rfl, rfl, Nat.le_refl _, fun _ _ => rfl, fun _ _ _ => rfl⟩

theorem Evo.setCell {T : Nat × Nat → Prop} (w : World) (ow : Nat → Nat × Nat) (a : Addr) (u : Value) (h : T (ow a.block)) : Evo T w ow (w.setCell a u) ow :=
  ⟨rfl, rfl, rfl, by simp, fun _ _ => rfl, fun k _ hn => Below.heap_setCell _ _ _ _ fun e => hn (by rw [e]; exact h)⟩

theorem Evo.setRow {T : Nat × Nat → Prop} (w : World) (ow : Nat → Nat × Nat) (g : Nat) (cs : Array Value) (h : T (ow g)) : Evo T w ow (w.setRow g cs) ow :=
  ⟨rfl, rfl, rfl, by simp [World.setRow], fun _ _ => rfl, fun k _ hn => setRow_other w g k cs fun e => hn (by rw [e]; exact h)⟩

/-- Behind a law of the kit's that ends in 'grownBy'. -/
theorem Evo.grown {T : Nat × Nat → Prop} {w w' : World} (ow : Nat → Nat × Nat) {row : Option Nat} (hg : w.grownBy w' row) (h : ∀ k, row = some k → T (ow k)) : Evo T w ow w' ow :=
  ⟨hg.os, hg.tape, hg.output, hg.size, fun _ _ => rfl, fun k hk hn => hg.block k hk fun e => hn (h k e.symm)⟩

theorem Evo.below {T : Nat × Nat → Prop} {w w' : World} {ow ow' : Nat → Nat × Nat} {B : Nat} (h : Evo T w ow w' ow') (hB : B ≤ w.heap.size) (hT : ∀ k, k < B → ¬ T (ow k)) : Below B w w' :=
  ⟨h.os, h.tape, h.output, h.size, fun k hk => h.block k (by omega) (hT k hk)⟩

theorem Evo.cell {T : Nat × Nat → Prop} {w w' : World} {ow ow' : Nat → Nat × Nat} (h : Evo T w ow w' ow') {a : Addr} {v : Value} (hc : w.cell? a = some v) (hT : ¬ T (ow a.block)) : w'.cell? a = some v :=
  (World.cell?_of_block (h.block a.block (World.block_lt_of_cell? w a hc) hT)).trans hc

theorem Evo.frozen {T : Nat × Nat → Prop} {w w' : World} {ow ow' : Nat → Nat × Nat} (h : Evo T w ow w' ow') {a : Addr} {v : Value} (hc : w.cell? a = some v) (hT : ¬ T (ow a.block)) : w'.frozen? a = w.frozen? a :=
  World.frozen?_of_block (h.block a.block (World.block_lt_of_cell? w a hc) hT)

theorem Evo.heap {T : Nat × Nat → Prop} {w w' : World} {ow ow' : Nat → Nat × Nat} (h : Evo T w ow w' ow') {g : Nat} {o : Obj} (hg : w.heap[g]? = some o) (hT : ¬ T (ow g)) : w'.heap[g]? = some o :=
  (h.block g (Array.getElem?_eq_some_iff.1 hg).1 hT).trans hg

/-- A row of cells that the call owns: the slice value v (nil, or at the head of a block that bears the tag tg) whose elements, one cell each, are ys. -/
def Row (w : World) (ow : Nat → Nat × Nat) (tg : Nat × Nat) (e : TypeId) (v : Value) (ys : List Value) : Prop :=
  w.ownsRow 0 e 1 v ys.length ys ∧ ∀ g, v.ownBlock = some g → ow g = tg

theorem Row.nil (w : World) (ow : Nat → Nat × Nat) (tg : Nat × Nat) (e : TypeId) : Row w ow tg e (.slice none 0 0) [] :=
  ⟨World.ownsRow_nil _ _ _ _, fun g h => by simp [Value.ownBlock] at h⟩

theorem Row.evo {T : Nat × Nat → Prop} {w w' : World} {ow ow' : Nat → Nat × Nat} {tg : Nat × Nat} {e : TypeId} {v : Value} {ys : List Value} (h : Row w ow tg e v ys) (hE : Evo T w ow w' ow') (hT : ¬ T tg) : Row w' ow' tg e v ys := by
  obtain ⟨⟨hl, hv⟩, ht⟩ := h
  rcases hv with ⟨rfl, h0⟩ | ⟨g, cap, cur, rfl, hb, hg, r⟩
  · exact ⟨⟨hl, .inl ⟨rfl, h0⟩⟩, fun g hg => by simp [Value.ownBlock] at hg⟩
  · have hlt := (Array.getElem?_eq_some_iff.1 hg).1
    have htg := ht g rfl
    refine ⟨⟨hl, .inr ⟨g, cap, cur, rfl, hb, (hE.block g hlt (by rw [htg]; exact hT)).trans hg, r⟩⟩, fun g' hg' => ?_⟩
    have : g = g' := by simpa [Value.ownBlock] using hg'
    subst this
    rw [hE.same g hlt, htg]

theorem Row.form {w : World} {ow : Nat → Nat × Nat} {tg : Nat × Nat} {e : TypeId} {v : Value} {ys : List Value} (h : Row w ow tg e v ys) :
    (v = .slice none 0 0 ∧ ys = []) ∨ ∃ g cap, v = .slice (some ⟨g, 0, none⟩) ys.length cap ∧ ow g = tg ∧ g < w.heap.size ∧ ys.length ≤ cap ∧ cap ≤ maxLen := by
  rcases h.1.2 with ⟨hv, h0⟩ | ⟨g, cap, cur, hv, _, hg, hc, hm, _⟩
  · exact .inl ⟨hv, List.eq_nil_of_length_eq_zero h0⟩
  · exact .inr ⟨g, cap, hv, h.2 g (by rw [hv]; rfl), (Array.getElem?_eq_some_iff.1 hg).1, hc, hm⟩

theorem Row.cell {w : World} {ow : Nat → Nat × Nat} {tg : Nat × Nat} {e : TypeId} {g n cap : Nat} {ys : List Value} (h : Row w ow tg e (.slice (some ⟨g, 0, none⟩) n cap) ys) {j : Nat} {u : Value} (hu : ys[j]? = some u) : w.cell? ⟨g, j, none⟩ = some u := by
  have hj := (List.getElem?_eq_some_iff.1 hu).1
  have hn : n = ys.length := by
    rcases h.form with ⟨hv, _⟩ | ⟨g', cap', hv, _⟩
    · cases hv
    · cases hv; rfl
  subst hn
  rw [h.1.cellAt j (by omega), hu]

theorem Row.frozen {w : World} {ow : Nat → Nat × Nat} {tg : Nat × Nat} {e : TypeId} {g n cap : Nat} {ys : List Value} (h : Row w ow tg e (.slice (some ⟨g, 0, none⟩) n cap) ys) (j : Nat) : w.frozen? ⟨g, j, none⟩ = false := by
  have hn : n = ys.length := by
    rcases h.form with ⟨hv, _⟩ | ⟨g', cap', hv, _⟩
    · cases hv
    · cases hv; rfl
  subst hn
  exact h.1.frozenAt j

theorem Row.set {w : World} {ow : Nat → Nat × Nat} {tg : Nat × Nat} {e : TypeId} {g n cap : Nat} {ys : List Value} (h : Row w ow tg e (.slice (some ⟨g, 0, none⟩) n cap) ys) (j : Nat) (u : Value) :
    Row (w.setCell ⟨g, j, none⟩ u) ow tg e (.slice (some ⟨g, 0, none⟩) n cap) (ys.set j u) ∧ Evo (OneTag tg) w ow (w.setCell ⟨g, j, none⟩ u) ow := by
  have hn : n = ys.length := by
    rcases h.form with ⟨hv, _⟩ | ⟨g', cap', hv, _⟩
    · cases hv
    · cases hv; rfl
  subst hn
  refine ⟨⟨?_, h.2⟩, Evo.setCell _ _ _ _ (h.2 g rfl)⟩
  have := (h.1.stored j u).1
  simpa using this

/-- What a slice of uint32 reads as, whoever owns it. -/
def RdU (w : World) (v : Value) (xs : List Int) : Prop :=
  ∃ a cap, v = .slice a xs.length cap ∧ (a = Option.none → xs = [] ∧ cap = 0) ∧ xs.length ≤ maxLen ∧ (0 < xs.length → ∃ b off, a = some ⟨b, off, Option.none⟩ ∧ ∀ i, i < xs.length → w.cell? ⟨b, off + i, Option.none⟩ = some (.int .u32 (xs.getD i 0)))

theorem RdU.evo {T : Nat × Nat → Prop} {w w' : World} {ow ow' : Nat → Nat × Nat} {v : Value} {xs : List Int} (h : RdU w v xs) (hE : Evo T w ow w' ow') (hT : ∀ x, ¬ T x) : RdU w' v xs := by
  obtain ⟨a, cap, hv, h0, hm, hc⟩ := h
  exact ⟨a, cap, hv, h0, hm, fun hp => let ⟨b, off, ha, hcell⟩ := hc hp; ⟨b, off, ha, fun i hi => hE.cell (hcell i hi) (hT _)⟩⟩

/-- A row of uint32s. -/
def u32s (xs : List Int) : List Value := xs.map (Value.int .u32)
@[simp] theorem u32s_length (xs : List Int) : (u32s xs).length = xs.length := by simp [u32s]
theorem u32s_get (xs : List Int) (i : Nat) (h : i < xs.length) : (u32s xs)[i]? = some (.int .u32 (xs.getD i 0)) := by simp [u32s, h]

theorem Row.rd {w : World} {ow : Nat → Nat × Nat} {tg : Nat × Nat} {e : TypeId} {v : Value} {xs : List Int} (h : Row w ow tg e v (u32s xs)) : RdU w v xs := by
  rcases h.form with ⟨rfl, h0⟩ | ⟨g, cap, rfl, _, _, hc, hm⟩
  · have : xs = [] := by simpa [u32s] using h0
    subst this
    exact ⟨Option.none, 0, rfl, fun _ => ⟨rfl, rfl⟩, Nat.zero_le _, fun hp => by simp at hp⟩
  · simp only [u32s_length] at hc
    refine ⟨some ⟨g, 0, Option.none⟩, cap, by simp, (fun hh => by cases hh), by omega, fun _ => ⟨g, 0, rfl, fun i hi => ?_⟩⟩
    rw [Nat.zero_add]
    exact h.cell (u32s_get xs i hi)

/-- What a slice of slices of uint32 reads as. -/
def RdUU (w : World) (v : Value) (css : List (List Int)) : Prop :=
  ∃ a cap, v = .slice a css.length cap ∧ (a = Option.none → css = [] ∧ cap = 0) ∧ css.length ≤ maxLen ∧ (0 < css.length → ∃ b off, a = some ⟨b, off, Option.none⟩ ∧ ∀ i c, css[i]? = some c → ∃ u, w.cell? ⟨b, off + i, Option.none⟩ = some u ∧ RdU w u c)

theorem RdUU.evo {T : Nat × Nat → Prop} {w w' : World} {ow ow' : Nat → Nat × Nat} {v : Value} {css : List (List Int)} (h : RdUU w v css) (hE : Evo T w ow w' ow') (hT : ∀ x, ¬ T x) : RdUU w' v css := by
  obtain ⟨a, cap, hv, h0, hm, hc⟩ := h
  exact ⟨a, cap, hv, h0, hm, fun hp => let ⟨b, off, ha, hcell⟩ := hc hp; ⟨b, off, ha, fun i c hi => let ⟨u, hu, hr⟩ := hcell i c hi; ⟨u, hE.cell hu (hT _), hr.evo hE hT⟩⟩⟩

/-- The clocks that the slice values vs lead to: each its own row, row i of group t with the tag (t, i + 2). -/
def Rows2 (w : World) (ow : Nat → Nat × Nat) (t : Nat) (vs : List Value) (css : List (List Int)) : Prop :=
  vs.length = css.length ∧ ∀ i c, css[i]? = some c → ∃ v, vs[i]? = some v ∧ Row w ow (t, i + 2) 38 v (u32s c)

theorem Rows2.evo {T : Nat × Nat → Prop} {w w' : World} {ow ow' : Nat → Nat × Nat} {t : Nat} {vs : List Value} {css : List (List Int)} (h : Rows2 w ow t vs css) (hE : Evo T w ow w' ow') (hT : ∀ i, ¬ T (t, i + 2)) : Rows2 w' ow' t vs css :=
  ⟨h.1, fun i c hi => let ⟨v, hv, hr⟩ := h.2 i c hi; ⟨v, hv, hr.evo hE (hT i)⟩⟩

/-- A [][]uint32 that the call owns: its outer row has the tag (t, 0). -/
def UU (w : World) (ow : Nat → Nat × Nat) (t : Nat) (v : Value) (css : List (List Int)) : Prop :=
  ∃ vs, Row w ow (t, 0) 23 v vs ∧ Rows2 w ow t vs css

theorem UU.evo {T : Nat × Nat → Prop} {w w' : World} {ow ow' : Nat → Nat × Nat} {t : Nat} {v : Value} {css : List (List Int)} (h : UU w ow t v css) (hE : Evo T w ow w' ow') (hT : ∀ i, ¬ T (t, i)) : UU w' ow' t v css :=
  let ⟨vs, h1, h2⟩ := h
  ⟨vs, h1.evo hE (hT 0), h2.evo hE fun i => hT (i + 2)⟩

theorem UU.rd {w : World} {ow : Nat → Nat × Nat} {t : Nat} {v : Value} {css : List (List Int)} (h : UU w ow t v css) : RdUU w v css := by
  obtain ⟨vs, h1, hl, h2⟩ := h
  rcases h1.form with ⟨rfl, h0⟩ | ⟨g, cap, rfl, _, _, hc, hm⟩
  · subst h0
    have : css = [] := List.eq_nil_of_length_eq_zero hl.symm
    subst this
    exact ⟨Option.none, 0, rfl, fun _ => ⟨rfl, rfl⟩, Nat.zero_le _, fun hp => by simp at hp⟩
  · refine ⟨some ⟨g, 0, Option.none⟩, cap, by rw [hl], (fun hh => by cases hh), by omega, fun _ => ⟨g, 0, rfl, fun i c hi => ?_⟩⟩
    obtain ⟨v, hv, hr⟩ := h2 i c hi
    refine ⟨v, ?_, hr.rd⟩
    rw [Nat.zero_add]
    exact h1.cell hv

end Go.Proofs.Qxb6615079a
