/-
  THE WALK of (*Model).Detached.
-/
import Derived.Test.Qxb6615079aTick
import Derived.Deep.LoopGhost
namespace Go.Proofs.Qxb6615079a
open Go.RowKit
set_option maxRecDepth 100000

theorem Row.shapeU {w : World} {ow : Nat → Nat × Nat} {tg : Nat × Nat} {e : TypeId} {v : Value} {xs : List Int} (h : Row w ow tg e v (u32s xs)) : ∃ a c, v = .slice a xs.length c := by
  obtain ⟨a, c, hv⟩ := h.shape
  exact ⟨a, c, by rw [hv, u32s_length]⟩

theorem Row.formU {w : World} {ow : Nat → Nat × Nat} {tg : Nat × Nat} {e : TypeId} {v : Value} {xs : List Int} (h : Row w ow tg e v (u32s xs)) :
    (v = .slice none 0 0 ∧ xs = []) ∨ ∃ g cap, v = .slice (some ⟨g, 0, none⟩) xs.length cap ∧ ow g = tg ∧ g < w.heap.size ∧ xs.length ≤ cap ∧ cap ≤ maxLen := by
  have := h.form
  rw [u32s_length] at this
  rcases this with ⟨hv, h0⟩ | h
  · exact .inl ⟨hv, by simpa [u32s] using h0⟩
  · exact .inr h

/-- Clocks up to n exist: the new ones are empty. -/
def padC (css : List (List Int)) (n : Nat) : List (List Int) := css ++ List.replicate (n - css.length) []
theorem padC_length (css : List (List Int)) (n : Nat) : (padC css n).length = max css.length n := by simp [padC]; omega
theorem padC_next (css : List (List Int)) (n : Nat) (h : css.length ≤ n) : padC css n ++ [[]] = padC css (n + 1) := by
  unfold padC
  rw [List.append_assoc, ← List.replicate_succ']
  congr 2
  omega
theorem padC_self (css : List (List Int)) : padC css css.length = css := by simp [padC]
theorem padC_len (css : List (List Int)) (n : Nat) (h : css.length ≤ n) : (padC css n).length = n := by rw [padC_length]; omega
theorem padC_small (css : List (List Int)) (n : Nat) (h : n ≤ css.length) : padC css n = css := by
  unfold padC
  rw [show n - css.length = 0 by omega]
  simp

/-- One clock more, empty, behind the others. -/
theorem Rows2.more {w : World} {ow : Nat → Nat × Nat} {t : Nat} {vs : List Value} {css : List (List Int)} (h : Rows2 w ow t vs css) : Rows2 w ow t (vs ++ [.slice none 0 0]) (css ++ [[]]) := by
  refine ⟨by simp [h.1], fun i c hi => ?_⟩
  by_cases hlt : i < css.length
  · rw [List.getElem?_append_left hlt] at hi
    obtain ⟨v, hv, hr⟩ := h.2 i c hi
    exact ⟨v, by rw [List.getElem?_append_left (by rw [h.1]; exact hlt)]; exact hv, hr⟩
  · have hl := (List.getElem?_eq_some_iff.1 hi).1
    simp at hl
    obtain rfl : i = css.length := by omega
    simp at hi
    subst hi
    exact ⟨.slice none 0 0, by rw [← h.1]; simp, Row.nil _ _ _ _⟩

/-- The loop that both Go and Detached begin with: a clock more, and the new slice stored into the Model. -/
theorem Mdl.more {w w1 : World} {ow : Nat → Nat × Nat} {t mb : Nat} {vs : List Value} {css : List (List Int)} {v : Value} {o : Obj} {g n cap : Nat} (hB : Box w ow (t, 1) mb 1 v) (hO : Row w ow (t, 0) 71 v vs) (hR : Rows2 w ow t vs css)
    (hown : w1.ownsRow 0 71 1 (.slice (some ⟨g, 0, none⟩) n cap) n (vs ++ [.slice none 0 0])) (hn : n = vs.length + 1) (hgrow : (w.alloc o).grownBy w1 v.ownBlock) (hat : v.ownBlock = some g ∨ g = w.heap.size + 1) :
    ∃ ow1, Box w1 ow1 (t, 1) mb 1 v ∧ Mdl (w1.setCell ⟨mb, 1, none⟩ (.slice (some ⟨g, 0, none⟩) n cap)) ow1 t mb (css ++ [[]]) ∧ Evo (GrpTag t) w ow (w1.setCell ⟨mb, 1, none⟩ (.slice (some ⟨g, 0, none⟩) n cap)) ow1 := by
  obtain ⟨hO1, hE1⟩ := hO.grow hown hn hgrow hat
  have hB1 := hB.evo hE1 (by simp [OneTag])
  have hR1 := (hR.evo hE1 (fun i => by simp [OneTag])).more
  obtain ⟨hB2, hE2⟩ := hB1.set (.slice (some ⟨g, 0, none⟩) n cap)
  exact ⟨_, hB1, ⟨_, _, hB2, hO1.evo hE2 (by simp [OneTag]), hR1.evo hE2 (fun i => by simp [OneTag])⟩,
    (hE1.mono fun x hx => by simp [OneTag] at hx; simp [GrpTag, hx]).trans (hE2.mono fun x hx => by simp [OneTag] at hx; simp [GrpTag, hx])⟩

set_option maxHeartbeats 800000 in
theorem detached_c (mb t g : Nat) (css : List (List Int)) (w : World) (ow : Nat → Nat × Nat) (_hm : css.length ≤ 1000000) (hg : g ≤ 100000) (h : Mdl w ow t mb css) :
    Calls Try.prog 30 #[.pointer (some ⟨mb, 0, none⟩), .int .i64 g] w fun e w' => ∃ ow', e = .returned (.tuple #[]) ∧ Mdl w' ow' t mb ((padC css (g + 1)).set g []) ∧ Evo (GrpTag t) w ow w' ow' := by
  obtain ⟨i0, hi, hz0, hz1, hz2⟩ := info_parts info71
  go_enter Try.func30, Try.ntmps30
  go_wp2
  go_loopg [4] (g + 1 - css.length) (fun q _ wr => ∃ n owr, css.length ≤ n ∧ n ≤ max css.length (g + 1) ∧ q = g + 1 - n ∧ Mdl wr owr t mb (padC css n) ∧ Evo (GrpTag t) w ow wr owr)
  case atStart => exact ⟨_, ow, Nat.le_refl _, Nat.le_max_left _ _, rfl, by rw [padC_self]; exact h, Evo.refl _ _ _⟩
  case round =>
    obtain ⟨n, owr, hn1, hn2, hq, hM, hE⟩ := hrel
    obtain ⟨v, vs, hbox, hrow, hrows⟩ := hM
    have hl := hrows.1
    rw [padC_len css n hn1] at hl
    obtain ⟨a, c, rfl⟩ := hrow.shape
    have hc1 := hbox.cell
    have hf1 := hbox.frozen 1
    have hown := hrow.1
    rw [hl] at hc1 hbox hown hrow
    have HB := hid hbox
    have HO := hid hrow
    have HS := hid hrows
    have HE := hid hE
    have HQ := hid hq
    have HL := hid hl
    clear hbox hrow hrows hE hl hq
    by_cases hng : n ≤ g
    · have hn' : (n : Int) ≤ (g : Int) := by omega
      go_wp2_with (at_builtin; refine wpList_append_lies _ rfl _ _ 67 rfl 0 71 i0 (.slice none 0 0) 1 24 Try.underlying67 hi hz0 hz1 hz2 rfl (by decide) _ n vs rfl (hown.alloc _) ⟨wr.heap.size, 0, none⟩ 1 1 [.slice none 0 0] rfl rfl (cell_one_new _ _ _) (by intro u hu; simp at hu; subst hu; rfl) (by decide) (by unfold maxLen; omega) (by omega) (Nat.zero_le _) (wr.heap.size + 1) (by simp) ?_)
      intro g' cap' w1 hown1 hgrow hat _
      obtain ⟨ow1, hB1, hM1, hE1⟩ := Mdl.more HB.out HO.out HS.out hown1 (by rw [HL.out]) hgrow hat
      have hc2 := hB1.cell
      have hf2 := hB1.frozen 1
      have HM1 := hid hM1
      have HE1 := hid (HE.out.trans hE1)
      clear hown1 hgrow hat hM1 hE1 hown hc1 hf1 hB1
      go_wp2
      go_roundg (g + 1 - (n + 1))
      case measure => have := HQ.out; omega
      case rel => exact ⟨n + 1, ow1, by omega, by omega, rfl, by rw [← padC_next css n hn1]; exact HM1.out, HE1.out⟩
    · have hpad : padC css n = padC css (g + 1) := by
        by_cases hb : g + 1 ≤ css.length
        · rw [padC_small css (g + 1) hb, show n = css.length by omega, padC_self]
        · rw [show n = g + 1 by omega]
      have hgn' : (g : Int) < (n : Int) := by omega
      have hgn : g < n := by omega
      have hfm := HO.out.form
      rw [HL.out] at hfm
      rcases hfm with ⟨_, h0⟩ | ⟨og, cap2, hv, _, _, _, _⟩
      · have := HL.out; rw [h0] at this; simp at this; omega
      obtain ⟨rfl, rfl⟩ : a = some ⟨og, 0, none⟩ ∧ c = cap2 := by cases hv; exact ⟨rfl, rfl⟩
      obtain ⟨u, hu⟩ : ∃ u, vs[g]? = some u := ⟨vs[g]'(by rw [HL.out]; exact hgn), by simp⟩
      have hc2 := HO.out.cell hu
      have hf2 := HO.out.frozen g
      have HF := hid (Mdl.store (g := g) HB.out HO.out HS.out (Evo.refl _ _ _) (ys := []) (Row.nil wr owr (t, g + 2) 38))
      rw [hpad] at HF
      clear hv hu hpad hown hf1 h
      go_wp2
      go_end0
      exact ⟨_, rfl, HF.out.1, HE.out.trans HF.out.2⟩

end Go.Proofs.Qxb6615079a
