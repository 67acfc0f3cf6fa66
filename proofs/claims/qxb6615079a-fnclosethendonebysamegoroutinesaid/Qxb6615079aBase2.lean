/-
  copy, make and append over 'Row'. No walk here.
-/
import Derived.Test.Qxb6615079aBase
namespace Go.Proofs.Qxb6615079a
open Go.RowKit
set_option maxRecDepth 100000

theorem info38 : (Try.prog.info? 38).map (fun i => (i.zero, i.size, i.bytes)) = some (some (.int .u32 0), 1, 4) := by kernel_rfl
theorem info23 : (Try.prog.info? 23).map (fun i => (i.zero, i.size, i.bytes)) = some (some (.slice none 0 0), 1, 24) := by kernel_rfl
theorem info71 : (Try.prog.info? 71).map (fun i => (i.zero, i.size, i.bytes)) = some (some (.slice none 0 0), 1, 24) := by kernel_rfl
theorem size38 : (Try.prog.info? 38).map (·.size) = some 1 := by kernel_rfl

/-- A block that was not there when the call began is written: nothing old turns. -/
theorem Evo.fresh {T : Nat × Nat → Prop} {w w1 w2 : World} {ow ow1 : Nat → Nat × Nat} {g : Nat} (h : Evo T w ow w1 ow1) (hg : w1.grownBy w2 (some g)) (hn : w.heap.size ≤ g) : Evo T w ow w2 ow1 :=
  ⟨hg.os.trans h.os, hg.tape.trans h.tape, hg.output.trans h.output, Nat.le_trans h.size hg.size, h.same,
    fun k hk hT => (hg.block k (Nat.lt_of_lt_of_le hk h.size) (fun e => by cases e; omega)).trans (h.block k hk hT)⟩

theorem grownBy_setCell (w : World) (g j : Nat) (u : Value) : w.grownBy (w.setCell ⟨g, j, Option.none⟩ u) (some g) :=
  ⟨rfl, rfl, rfl, by simp, fun i _ hi => heap_setCell_other _ ⟨g, j, Option.none⟩ i u (fun e => hi (by simp [e]))⟩

/-- 'make': what the kit's law leaves, in this text's words. -/
theorem Row.made {w w1 : World} {ow : Nat → Nat × Nat} {tg : Nat × Nat} {e : TypeId} {z : Value} {n : Nat}
    (hown : w1.ownsRow 0 e 1 (.slice (some ⟨w.heap.size, 0, none⟩) n n) n (madeCells #[z] n).toList) (hgrow : w.grownBy w1 Option.none) :
    Row w1 (nw ow w.heap.size tg) tg e (.slice (some ⟨w.heap.size, 0, none⟩) n n) (List.replicate n z) ∧ Evo NoTag w ow w1 (nw ow w.heap.size tg) := by
  rw [toList_madeCells_one] at hown
  refine ⟨⟨by simpa using hown, fun g hg => ?_⟩, (Evo.retag NoTag w ow tg).trans (Evo.grown _ hgrow fun k hk => by cases hk)⟩
  have : w.heap.size = g := by simpa [Value.ownBlock] using hg
  subst this
  exact nw_new (Nat.le_refl _)

/-- 'append': what the kit's law leaves, in this text's words. -/
theorem Row.appended {w w1 : World} {ow : Nat → Nat × Nat} {tg : Nat × Nat} {e : TypeId} {v : Value} {ys news : List Value} {g n cap : Nat} (h : Row w ow tg e v ys)
    (hown : w1.ownsRow 0 e 1 (.slice (some ⟨g, 0, none⟩) n cap) n (ys ++ news)) (hn : n = ys.length + news.length) (hgrow : w.grownBy w1 v.ownBlock) (hat : v.ownBlock = some g ∨ w.heap.size ≤ g) :
    Row w1 (nw ow w.heap.size tg) tg e (.slice (some ⟨g, 0, none⟩) n cap) (ys ++ news) ∧ Evo (OneTag tg) w ow w1 (nw ow w.heap.size tg) := by
  subst hn
  have hlt : ∀ k, v.ownBlock = some k → k < w.heap.size := fun k hk => (h.1.lt k hk).2
  refine ⟨⟨by simpa using hown, fun g' hg' => ?_⟩, (Evo.retag _ w ow tg).trans (Evo.grown _ hgrow fun k hk => ?_)⟩
  · have : g = g' := by simpa [Value.ownBlock] using hg'
    subst this
    rcases hat with hat | hat
    · rw [nw_old (hlt g hat)]; exact h.2 g hat
    · exact nw_new hat
  · rw [nw_old (hlt k hk)]; exact h.2 k hk

/-- 'copy(out, c)', out a row of the call's own that is long enough. -/
theorem run_copy_u {w : World} {ow : Nat → Nat × Nat} {tg : Nat × Nat} {g n cap : Nat} {ys : List Value} {a : Option Addr} {c : Nat} {xs : List Int} (t : TypeId) (ht : Try.prog.underlying t = some (.slice 38))
    (h : Row w ow tg 38 (.slice (some ⟨g, 0, none⟩) n cap) ys) (hr : RdU w (.slice a xs.length c) xs) (hl : xs.length ≤ n) (ty : TypeId) :
    ∃ w2, (Builtin.copy_ #[t, t] ty #[.slice (some ⟨g, 0, none⟩) n cap, .slice a xs.length c]).run Try.prog w = .ok (goInt xs.length) w2 ∧
      Row w2 ow tg 38 (.slice (some ⟨g, 0, none⟩) n cap) (u32s xs ++ ys.drop xs.length) ∧ w.grownBy w2 (some g) := by
  have hn : n = ys.length := by
    rcases h.form with ⟨hv, _⟩ | ⟨g', cap', hv, _⟩
    · cases hv
    · cases hv; rfl
  subst hn
  obtain ⟨a', cap', hv, h0, hm, hc⟩ := hr
  cases hv
  by_cases hx : xs.length = 0
  · have : xs = [] := List.eq_nil_of_length_eq_zero hx
    subst this
    refine ⟨w, ?_, by simpa [u32s] using h, World.grownBy.refl _ _⟩
    have := run_copy_none (P := Try.prog) w t t ty 38 (some ⟨g, 0, none⟩) a ys.length cap ([] : List Int).length c ht size38 (by simp)
    simpa using this
  · obtain ⟨b, off, rfl, hcell⟩ := hc (by omega)
    rcases h.1.2 with ⟨hv, _⟩ | ⟨g', cap', cur, hv, _, hg, hnc, hcm, hcs, htake⟩
    · cases hv
    · cases hv
      have hrun := run_copy_row (P := Try.prog) w t t ty 38 g 0 ys.length cap ⟨b, off, none⟩ xs.length c cur 38 (u32s xs) ht size38 hg (by rw [u32s_length]; exact (Nat.min_eq_left hl).symm)
        (fun j u hu => by
          have hj : j < xs.length := by simpa using (List.getElem?_eq_some_iff.1 hu).1
          rw [u32s_get xs j hj] at hu
          rw [Addr.add_lit, hcell j hj, hu]) (by simp; omega) (ints_oneCell _ _)
      rw [u32s_length] at hrun
      refine ⟨_, hrun, ⟨⟨?_, .inr ⟨g, cap, _, ?_, Nat.zero_le _, setRow_heap w g cur _ 38 _ hg, ?_, hcm, ?_, ?_⟩⟩, h.2⟩, ⟨rfl, rfl, rfl, by simp [World.setRow], fun k _ hk => setRow_other w g k _ (fun e => hk (by simp [e]))⟩⟩
      · simp
      · simp; omega
      · simp; omega
      · simp [hcs]; omega
      · simp only [Nat.mul_one] at htake
        have e1 : (u32s xs ++ ys.drop xs.length).length * 1 = ys.length := by simp; omega
        rw [e1]
        have e2 : ys.drop xs.length = (cur.toList.drop xs.length).take (ys.length - xs.length) := by
          have h3 := congrArg (List.drop xs.length) htake
          rw [List.drop_take] at h3
          exact h3.symm
        rw [e2, List.take_append]
        simp only [List.take_zero, List.nil_append, Nat.zero_add, u32s_length]
        rw [List.take_of_length_le (by simp; omega)]

theorem Row.shape {w : World} {ow : Nat → Nat × Nat} {tg : Nat × Nat} {e : TypeId} {v : Value} {ys : List Value} (h : Row w ow tg e v ys) : ∃ a c, v = .slice a ys.length c := by
  rcases h.form with ⟨rfl, rfl⟩ | ⟨g, cap, rfl, _⟩
  · exact ⟨_, _, rfl⟩
  · exact ⟨_, _, rfl⟩

theorem Row.len {w : World} {ow : Nat → Nat × Nat} {tg : Nat × Nat} {e : TypeId} {a : Option Addr} {n c : Nat} {ys : List Value} (h : Row w ow tg e (.slice a n c) ys) : n = ys.length := by
  obtain ⟨_, _, hv⟩ := h.shape
  cases hv; rfl

/-- What the loop of cloneUU has made so far: the first k rows. -/
def Part (w : World) (ow : Nat → Nat × Nat) (t : Nat) (v : Value) (n : Nat) (css : List (List Int)) (k : Nat) : Prop :=
  ∃ vs, vs.length = n ∧ Row w ow (t, 0) 23 v vs ∧ ∀ j c, j < k → css[j]? = some c → ∃ u, vs[j]? = some u ∧ Row w ow (t, j + 2) 38 u (u32s c)

theorem Part.step {w0 w1 w2 : World} {ow ow2 : Nat → Nat × Nat} {ow0 : Nat → Nat × Nat} {t g n k : Nat} {css : List (List Int)} {v' : Value} {x : List Int} (hp : Part w1 ow t (.slice (some ⟨g, 0, none⟩) n n) n css k) (hk : k < n) (hgn : w0.heap.size ≤ g)
    (hev0 : Evo NoTag w0 ow0 w1 ow) (hev : Evo NoTag w1 ow w2 ow2) (hx : css[k]? = some x) (hrow : Row w2 ow2 (t, k + 2) 38 v' (u32s x)) :
    Part (w2.setCell ⟨g, k, none⟩ v') ow2 t (.slice (some ⟨g, 0, none⟩) n n) n css (k + 1) ∧ Evo NoTag w0 ow0 (w2.setCell ⟨g, k, none⟩ v') ow2 := by
  obtain ⟨vs, hl, h1, h2⟩ := hp
  have h1' := h1.evo hev (fun h => h)
  obtain ⟨hs, he⟩ := h1'.set k v'
  refine ⟨⟨vs.set k v', by simpa using hl, hs, fun j c hj hc => ?_⟩, ?_⟩
  · by_cases hjk : j = k
    · subst hjk
      rw [hx] at hc
      cases hc
      exact ⟨v', by simp [hl, hk], hrow.evo he (by simp [OneTag])⟩
    · obtain ⟨u, hu, hr⟩ := h2 j c (by omega) hc
      exact ⟨u, by rw [List.getElem?_set_ne (Ne.symm hjk)]; exact hu, (hr.evo hev (fun h => h)).evo he (by simp [OneTag])⟩
  · refine (hev0.trans hev).fresh (g := g) ⟨rfl, rfl, rfl, by simp, fun i _ hi => heap_setCell_other _ ⟨g, k, none⟩ i v' (fun e => hi (by simp [e]))⟩ hgn

theorem Part.all {w : World} {ow : Nat → Nat × Nat} {t : Nat} {v : Value} {css : List (List Int)} (h : Part w ow t v css.length css css.length) : UU w ow t v css := by
  obtain ⟨vs, hl, h1, h2⟩ := h
  exact ⟨vs, h1, hl, fun i c hi => h2 i c (List.getElem?_eq_some_iff.1 hi).1 hi⟩

theorem Part.frozen {w : World} {ow : Nat → Nat × Nat} {t g n k : Nat} {css : List (List Int)} (h : Part w ow t (.slice (some ⟨g, 0, none⟩) n n) n css k) (j : Nat) (hj : j < n) : w.frozen? ⟨g, j, none⟩ = false ∧ ∃ u, w.cell? ⟨g, j, none⟩ = some u := by
  obtain ⟨vs, hl, h1, h2⟩ := h
  exact ⟨h1.frozen j, vs[j], h1.cell (by simp)⟩

end Go.Proofs.Qxb6615079a
