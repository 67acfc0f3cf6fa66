/-
  THE WALK of (*Model).tick.
-/
import Derived.Test.Qxb6615079aState
namespace Go.Proofs.Qxb6615079a
open Go.RowKit
set_option maxRecDepth 100000

/-- The length of a slice value. -/
def lenV : Value → Nat
  | .slice _ n _ => n
  | _ => 0

theorem padTo_next (xs : List Int) (n : Nat) (h : xs.length ≤ n) : padTo xs n ++ [0] = padTo xs (n + 1) := by
  unfold padTo
  rw [List.append_assoc, ← List.replicate_succ']
  congr 2
  omega
theorem padTo_self (xs : List Int) : padTo xs xs.length = xs := by simp [padTo]
theorem padTo_len (xs : List Int) (n : Nat) (h : xs.length ≤ n) : (padTo xs n).length = n := by rw [padTo_length]; omega
theorem padTo_small (xs : List Int) (n : Nat) (h : n ≤ xs.length) : padTo xs n = xs := by
  unfold padTo
  rw [show n - xs.length = 0 by omega]
  simp

/-- One more nought, appended by the kit's law. -/
theorem Row.grow {w w1 : World} {ow : Nat → Nat × Nat} {tg : Nat × Nat} {e : TypeId} {v : Value} {ys : List Value} {z : Value} {o : Obj} {g n cap : Nat} (h : Row w ow tg e v ys)
    (hown : w1.ownsRow 0 e 1 (.slice (some ⟨g, 0, none⟩) n cap) n (ys ++ [z])) (hn : n = ys.length + 1) (hgrow : (w.alloc o).grownBy w1 v.ownBlock) (hat : v.ownBlock = some g ∨ g = w.heap.size + 1) :
    Row w1 (nw ow (w.heap.size + 1) tg) tg e (.slice (some ⟨g, 0, none⟩) n cap) (ys ++ [z]) ∧ Evo (OneTag tg) w ow w1 (nw ow (w.heap.size + 1) tg) := by
  have h' : Row (w.alloc o) ow tg e v ys := h.evo (Evo.alloc NoTag w ow o) (fun h => h)
  have r := Row.appended h' hown (by simpa using hn) hgrow (by rcases hat with h | h; exact .inl h; exact .inr (by simp [h]))
  simp only [World.size_alloc] at r
  exact ⟨r.1, (Evo.alloc _ w ow o).trans r.2⟩

/-- Row g of a Model is set to another row of the same tag. -/
theorem Mdl.store {w w2 : World} {ow ow2 : Nat → Nat × Nat} {t mb og n c g : Nat} {vs : List Value} {css : List (List Int)} {v' : Value} {ys : List Int} (hB : Box w ow (t, 1) mb 1 (.slice (some ⟨og, 0, none⟩) n c))
    (hO : Row w ow (t, 0) 71 (.slice (some ⟨og, 0, none⟩) n c) vs) (hR : Rows2 w ow t vs css) (hE : Evo (OneTag (t, g + 2)) w ow w2 ow2) (hN : Row w2 ow2 (t, g + 2) 38 v' (u32s ys)) :
    Mdl (w2.setCell ⟨og, g, none⟩ v') ow2 t mb (css.set g ys) ∧ Evo (GrpTag t) w ow (w2.setCell ⟨og, g, none⟩ v') ow2 := by
  have hB2 := hB.evo hE (by simp [OneTag])
  have hO2 := hO.evo hE (by simp [OneTag])
  obtain ⟨hO3, hE3⟩ := hO2.set g v'
  refine ⟨⟨_, _, hB2.evo hE3 (by simp [OneTag]), hO3, by simpa using hR.1, fun i x hi => ?_⟩, (hE.mono fun x hx => by simp [OneTag] at hx; simp [GrpTag, hx]).trans (hE3.mono fun x hx => by simp [OneTag] at hx; simp [GrpTag, hx])⟩
  by_cases hig : i = g
  · subst hig
    have hlt : i < css.length := by simpa using (List.getElem?_eq_some_iff.1 hi).1
    have hx : ys = x := by simpa [hlt] using hi
    subst hx
    exact ⟨v', by simp [hR.1, hlt], hN.evo hE3 (by simp [OneTag])⟩
  · rw [List.getElem?_set_ne (Ne.symm hig)] at hi
    obtain ⟨v, hv, hr⟩ := hR.2 i x hi
    refine ⟨v, by rw [List.getElem?_set_ne (Ne.symm hig)]; exact hv, (hr.evo hE ?_).evo hE3 (by simp [OneTag])⟩
    simp [OneTag]
    omega

set_option maxHeartbeats 800000 in
theorem tick_c (mb t g : Nat) (css : List (List Int)) (xs : List Int) (w : World) (ow : Nat → Nat × Nat) (hm : css.length ≤ 1000000) (hx : css[g]? = some xs) (_hmx : xs.length ≤ 1000000000) (h : Mdl w ow t mb css) :
    Calls Try.prog 48 #[.pointer (some ⟨mb, 0, none⟩), .int .i64 g] w fun e w' => ∃ ow', e = .returned (.tuple #[]) ∧ Mdl w' ow' t mb (css.set g (tickL xs g 1)) ∧ Evo (GrpTag t) w ow w' ow' := by
  obtain ⟨v, vs, hbox, hrow, hrows⟩ := h
  have hg : g < css.length := (List.getElem?_eq_some_iff.1 hx).1
  have hl := hrows.1
  obtain ⟨vg, hvg, hrg⟩ := hrows.2 g xs hx
  obtain ⟨ag, cg, rfl⟩ := hrg.shape
  rcases hrow.form with ⟨_, h0⟩ | ⟨og, c, rfl, _, _, _, _⟩
  · rw [h0] at hl; simp at hl; omega
  have hc1 := hbox.cell
  have hc2 := hrow.cell hvg
  have hf2 := hrow.frozen g
  obtain ⟨i0, hi, hz0, hz1, hz2⟩ := info_parts info38
  have hgl : (g : Int) < (vs.length : Int) := by omega
  have hgn : g < vs.length := by omega
  have hvl : vs.length ≤ 1000000 := by omega
  have HB := hid hbox
  have HO := hid hrow
  have HS := hid hrows
  have HG := hid hrg
  clear hbox hrow hrows hrg hl hvg hx
  go_enter Try.func48, Try.ntmps48
  go_wp2
  go_loopw [4] (fun cv wr => ∃ a n cap owr, cv = .slice a n cap ∧ xs.length ≤ n ∧ n ≤ max xs.length (g + 1) ∧ Row wr owr (t, g + 2) 38 (.slice a n cap) (u32s (padTo xs n)) ∧ Evo (OneTag (t, g + 2)) w ow wr owr) (fun cv _ => g + 1 - lenV cv)
  case atStart => exact ⟨_, _, _, ow, rfl, Nat.le_refl _, Nat.le_max_left _ _, by rw [padTo_self]; simpa using HG.out, Evo.refl _ _ _⟩
  case round =>
    obtain ⟨a, n, cap, owr, rfl, hn1, hn2, hR, hE⟩ := hrel
    have hcr1 := hE.cell hc1 (by rw [HB.out.1]; simp [OneTag])
    have hcr2 := hE.cell hc2 (by rw [HO.out.2 og rfl]; simp [OneTag])
    have hfr2 := (hE.frozen hc2 (by rw [HO.out.2 og rfl]; simp [OneTag])).trans hf2
    clear hc1 hc2 hf2
    by_cases hng : n ≤ g
    · have hn' : (n : Int) ≤ (g : Int) := by omega
      have hown := hR.1
      rw [u32s_length, padTo_len xs n hn1] at hown
      go_wp2_with (at_builtin; refine wpList_append_lies _ rfl _ _ 71 rfl 0 38 i0 (.int .u32 0) 1 4 Try.underlying71 hi hz0 hz1 hz2 rfl (by decide) _ n (u32s (padTo xs n)) rfl (hown.alloc _) ⟨wr.heap.size, 0, none⟩ 1 1 [.int .u32 0] rfl rfl (cell_one_new _ _ _) (by intro u hu; simp at hu; subst hu; rfl) (by decide) (by unfold maxLen; omega) (by omega) (Nat.zero_le _) (wr.heap.size + 1) (by simp) ?_)
      intro g' cap' w1 hown1 hgrow hat _
      obtain ⟨hR1, hE1⟩ := hR.grow hown1 (by rw [u32s_length, padTo_len xs n hn1]) hgrow hat
      have e1 : u32s (padTo xs n) ++ [Value.int .u32 0] = u32s (padTo xs (n + 1)) := by rw [← padTo_next xs n hn1]; simp [u32s]
      rw [e1] at hR1
      have HR1 := hid hR1
      have HE1 := hid (hE.trans hE1)
      clear hown1 hgrow hat hR1 hE1 hown hR hE e1 hcr1 hcr2 hfr2
      go_wp2
      go_roundw
      case rel => exact ⟨_, n + 1, _, _, rfl, by omega, by omega, HR1.out, HE1.out⟩
      case measure => simp [lenV]; omega
    · have hn3 : n = max xs.length (g + 1) := by omega
      have hgn' : (g : Int) < (n : Int) := by omega
      have hpad : padTo xs n = padTo xs (g + 1) := by
        by_cases hb : g + 1 ≤ xs.length
        · rw [padTo_small xs (g + 1) hb, show n = xs.length by omega, padTo_self]
        · rw [show n = g + 1 by omega]
      rw [hpad] at hR
      have hlen := hR.len
      rcases hR.form with ⟨hv, _⟩ | ⟨gb, cap2, hv, htag, _, _, _⟩
      · cases hv; omega
      obtain ⟨rfl, rfl⟩ : a = some ⟨gb, 0, none⟩ ∧ cap = cap2 := by cases hv; exact ⟨rfl, rfl⟩
      have hcell := hR.cell (u32s_get (padTo xs (g + 1)) g (by rw [padTo_length]; omega))
      have hfz := hR.frozen g
      rw [padTo_get] at hcell
      have hx : atN xs g = xs.getD g 0 := rfl
      rw [← hx] at hcell
      obtain ⟨hR2, hE2⟩ := hR.set g (.int .u32 ((atN xs g + 1) % 4294967296))
      rw [← u32s_set] at hR2
      have hcs1 := hE2.cell hcr1 (by rw [hE.same _ (World.block_lt_of_cell? w _ HB.out.cell), HB.out.1]; simp [OneTag])
      have hcs2 := hE2.cell hcr2 (by rw [hE.same _ (HO.out.1.lt og rfl).2, HO.out.2 og rfl]; simp [OneTag])
      have hfs2 := (hE2.frozen hcr2 (by rw [hE.same _ (HO.out.1.lt og rfl).2, HO.out.2 og rfl]; simp [OneTag])).trans hfr2
      have HF := hid (Mdl.store HB.out HO.out HS.out (hE.trans hE2) hR2)
      clear hR hE hR2 hE2 hv hlen hpad hx hn3 htag
      go_wp2
      go_end0
      exact ⟨_, rfl, HF.out.1, HF.out.2⟩

end Go.Proofs.Qxb6615079a
