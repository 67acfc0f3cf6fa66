/-
  THE WALKS of slices.Clone, (*Model).Go, (*Model).Close.
-/
import Derived.Test.Qxb6615079aLaws2
namespace Go.Proofs.Qxb6615079a
open Go.RowKit
set_option maxRecDepth 100000

theorem clone_nil (w : World) : Calls Try.prog 47 #[.slice none 0 0] w fun e w' => e = .returned (.slice none 0 0) ∧ w' = w := by
  have hn := fun w => Lib.run_eql_slice_nil (P := Try.prog) w 71 38 none 0 0 0 0 Try.underlying71
  go_enter Try.func47, Try.ntmps47
  go_wp2
  go_ret
  exact ⟨rfl, rfl⟩

theorem Row.fresh_append {w w1 : World} {ow : Nat → Nat × Nat} {tg : Nat × Nat} {o : Obj} {v' : Value} {ys : List Value} {n : Nat} (hown : w1.ownsRow 0 38 1 v' n ys) (hn : n = ys.length) (hgrow : (w.alloc o).grownBy w1 (some w.heap.size))
    (hat : v'.ownBlock = some w.heap.size ∨ v'.ownBlock = some (w.heap.size + 1)) : Row w1 (nw ow w.heap.size tg) tg 38 v' ys ∧ Evo NoTag w ow w1 (nw ow w.heap.size tg) := by
  subst hn
  refine ⟨⟨hown, fun g hg => nw_new ?_⟩, ((Evo.retag NoTag w ow tg).trans (Evo.alloc _ _ _ _)).fresh hgrow (Nat.le_refl _)⟩
  rcases hat with h | h <;> (rw [h] at hg; cases hg; omega)

set_option maxHeartbeats 400000 in
theorem clone_some (a : Addr) (xs : List Int) (cap : Nat) (w : World) (ow : Nat → Nat × Nat) (tg : Nat × Nat) (hm : xs.length ≤ 1000000000) (hr : RdU w (.slice (some a) xs.length cap) xs) :
    Calls Try.prog 47 #[.slice (some a) xs.length cap] w fun e w' => ∃ v' ow', e = .returned v' ∧ Row w' ow' tg 38 v' (u32s xs) ∧ Evo NoTag w ow w' ow' := by
  have hn := fun w => Lib.run_eql_slice_nil (P := Try.prog) w 71 38 (some a) xs.length cap 0 0 Try.underlying71
  obtain ⟨i0, hi, hz0, hz1, hz2⟩ := info_parts info38
  have hnews : ∀ j u, (u32s xs)[j]? = some u → (w.alloc (.cells #[] 38)).cell? (a.add j) = some u := by
    intro j u hu
    have hj : j < xs.length := by simpa using (List.getElem?_eq_some_iff.1 hu).1
    obtain ⟨a', c', hv, _, _, hc⟩ := hr
    cases hv
    obtain ⟨b, off, hb, hcell⟩ := hc (by omega)
    cases hb
    rw [u32s_get xs j hj] at hu
    rw [Addr.add_lit, ← hu]
    have := hcell j hj
    rw [World.cell?_alloc_lt _ _ _ (World.block_lt_of_cell? w _ this)]
    exact this
  have HNW := hid hnews
  have HO := hid (World.ownsRow_made (base := 0) (e := 38) (size := 1) w #[] 0 (Nat.zero_le _) (Nat.zero_le _) rfl)
  clear hnews hr
  go_enter Try.func47, Try.ntmps47
  go_wp2_with (at_builtin; refine wpList_append_own_at _ rfl _ _ 71 rfl 0 38 i0 (.int .u32 0) 1 4 Try.underlying71 hi hz0 hz1 hz2 rfl (by decide) _ 0 [] rfl HO.out a xs.length cap (u32s xs) rfl (by simp) HNW.out (ints_oneCell _ _) (by unfold maxLen; omega) (by omega) (Nat.zero_le _) ?_)
  intro v' w1 hown hgrow _ hat
  have hown2 : w1.ownsRow 0 38 1 v' xs.length (u32s xs) := by simpa using hown
  obtain ⟨hR, hE⟩ := Row.fresh_append (ow := ow) (tg := tg) hown2 (by simp) hgrow (by simpa [Value.ownBlock] using hat)
  have HR := hid hR
  have HE := hid hE
  clear hown hown2 hgrow hat hR hE
  go_wp2
  go_ret
  exact ⟨_, _, rfl, HR.out, HE.out⟩

theorem clone_c (v : Value) (xs : List Int) (w : World) (ow : Nat → Nat × Nat) (tg : Nat × Nat) (hm : xs.length ≤ 1000000000) (hr : RdU w v xs) :
    Calls Try.prog 47 #[v] w fun e w' => ∃ v' ow', e = .returned v' ∧ Row w' ow' tg 38 v' (u32s xs) ∧ Evo NoTag w ow w' ow' := by
  have hr0 := hr
  obtain ⟨a, cap, rfl, h0, _, _⟩ := hr
  cases a with
  | some a => exact clone_some a xs cap w ow tg hm hr0
  | none =>
    obtain ⟨rfl, rfl⟩ := h0 rfl
    refine (clone_nil w).mono fun e w' ⟨he, hw⟩ => ?_
    subst hw
    exact ⟨_, ow, he, Row.nil _ _ _ _, Evo.refl _ _ _⟩

set_option maxHeartbeats 1600000 in
theorem go_c (mb t p g : Nat) (css : List (List Int)) (xs : List Int) (w : World) (ow : Nat → Nat × Nat) (hm : css.length ≤ 1000000) (hg : g ≤ 100000) (hpg : p ≠ g) (hx : css[p]? = some xs) (hmx : xs.length ≤ 1000000000) (h : Mdl w ow t mb css) :
    Calls Try.prog 32 #[.pointer (some ⟨mb, 0, none⟩), .int .i64 p, .int .i64 g] w fun e w' => ∃ ow', e = .returned (.tuple #[]) ∧ Mdl w' ow' t mb (((padC css (g + 1)).set g xs).set p (tickL xs p 1)) ∧ Evo (GrpTag t) w ow w' ow' := by
  obtain ⟨i0, hi, hz0, hz1, hz2⟩ := info_parts info71
  have hp : p < css.length := (List.getElem?_eq_some_iff.1 hx).1
  have HX := hid hx
  have HPG := hid hpg
  clear hx hpg
  go_enter Try.func32, Try.ntmps32
  go_wp2
  go_loopg [6] (g + 1 - css.length) (fun q _ wr => ∃ n owr, css.length ≤ n ∧ n ≤ max css.length (g + 1) ∧ q = g + 1 - n ∧ Mdl wr owr t mb (padC css n) ∧ Evo (GrpTag t) w ow wr owr)
  case atStart => exact ⟨_, ow, Nat.le_refl _, Nat.le_max_left _ _, rfl, by rw [padC_self]; exact h, Evo.refl _ _ _⟩
  case round =>
    obtain ⟨n, owr, hn1, hn2, hq, hM, hE⟩ := hrel
    have HM := hid hM
    obtain ⟨v, vs, hbox, hrow, hrows⟩ := hM
    have hl := hrows.1
    rw [padC_len css n hn1] at hl
    obtain ⟨a, c, rfl⟩ := hrow.shape
    have hc1 := hbox.cell
    have hf1 := hbox.frozen 1
    have hown := hrow.1
    rw [hl] at hc1 hbox hown hrow
    have HB := hid hbox
    have HO := hid hrow
    have HS := hid hrows
    have HE := hid hE
    have HQ := hid hq
    have HL := hid hl
    clear hbox hrow hrows hE hl hq
    by_cases hng : n ≤ g
    · have hn' : (n : Int) ≤ (g : Int) := by omega
      go_wp2_with (at_builtin; refine wpList_append_lies _ rfl _ _ 67 rfl 0 71 i0 (.slice none 0 0) 1 24 Try.underlying67 hi hz0 hz1 hz2 rfl (by decide) _ n vs rfl (hown.alloc _) ⟨wr.heap.size, 0, none⟩ 1 1 [.slice none 0 0] rfl rfl (cell_one_new _ _ _) (by intro u hu; simp at hu; subst hu; rfl) (by decide) (by unfold maxLen; omega) (by omega) (Nat.zero_le _) (wr.heap.size + 1) (by simp) ?_)
      intro g' cap' w1 hown1 hgrow hat _
      obtain ⟨ow1, hB1, hM1, hE1⟩ := Mdl.more HB.out HO.out HS.out hown1 (by rw [HL.out]) hgrow hat
      have hc2 := hB1.cell
      have hf2 := hB1.frozen 1
      have HM1 := hid hM1
      have HE1 := hid (HE.out.trans hE1)
      clear hown1 hgrow hat hM1 hE1 hown hc1 hf1 hB1
      go_wp2
      go_roundg (g + 1 - (n + 1))
      case measure => have := HQ.out; omega
      case rel => exact ⟨n + 1, ow1, by omega, by omega, rfl, by rw [← padC_next css n hn1]; exact HM1.out, HE1.out⟩
    · have hpad : padC css n = padC css (g + 1) := by
        by_cases hb : g + 1 ≤ css.length
        · rw [padC_small css (g + 1) hb, show n = css.length by omega, padC_self]
        · rw [show n = g + 1 by omega]
      have hgn' : (g : Int) < (n : Int) := by omega
      have hgn : g < n := by omega
      have hpn' : (p : Int) < (n : Int) := by omega
      have hpn : p < n := by omega
      have hfm := HO.out.form
      rw [HL.out] at hfm
      rcases hfm with ⟨_, h0⟩ | ⟨og, cap2, hv, htag, _, _, _⟩
      · have := HL.out; rw [h0] at this; simp at this; omega
      obtain ⟨rfl, rfl⟩ : a = some ⟨og, 0, none⟩ ∧ c = cap2 := by cases hv; exact ⟨rfl, rfl⟩
      obtain ⟨u, hu⟩ : ∃ u, vs[g]? = some u := ⟨vs[g]'(by rw [HL.out]; exact hgn), by simp⟩
      have hpx : (padC css n)[p]? = some xs := by unfold padC; rw [List.getElem?_append_left hp]; exact HX.out
      obtain ⟨up, hup, hrp⟩ := HS.out.2 p xs hpx
      obtain ⟨ap, cp, rfl⟩ := hrp.shapeU
      have hc2 := HO.out.cell hu
      have hcp := HO.out.cell hup
      have HCL := hid (clone_c (.slice ap xs.length cp) xs wr.drew owr (t, g + 2) hmx hrp.rd)
      have HBd := hid (show Box wr.drew owr (t, 1) mb 1 _ from HB.out)
      have HOd := hid (show Row wr.drew owr (t, 0) 71 _ vs from HO.out)
      have HSd := hid (show Rows2 wr.drew owr t vs (padC css n) from HS.out)
      have HU := hid hu
      have HPX := hid hpx
      have HPD := hid hpad
      have hpl : ((padC css (g + 1)).set g xs).length ≤ 1000000 := by simp [padC_length]; omega
      have HPL := hid hpl
      clear hv hu hup hrp hpx hpad hpl hown hf1 h htag
      go_wp2
      go_region_with ((go_at_call 47; refine HCL.out.mono ?_; rintro e w1 ⟨v', ow1, rfl, hR1, hE1⟩; obtain ⟨a', c', rfl⟩ := hR1.shapeU; have hc1x := (HBd.out.evo hE1 (fun h => h)).cell; have hO1 := HOd.out.evo hE1 (fun h => h); have hcgx := hO1.cell HU.out; have hfgx := hO1.frozen g))
      all_goals
        obtain ⟨hM2, hE2⟩ := Mdl.store (g := g) HBd.out HOd.out HSd.out (Evo.none hE1) hR1
        rw [HPD.out] at hM2
        have HE2 := hid (HE.out.trans ((Evo.drew _ wr owr).trans hE2))
        have hx2 : ((padC css (g + 1)).set g xs)[p]? = some xs := by rw [List.getElem?_set_ne (Ne.symm HPG.out), ← HPD.out]; exact HPX.out
        have HT := hid (tick_c mb t p _ xs _ ow1 HPL.out hx2 hmx hM2)
        clear hM2 hE2 hx2 hR1 hE1 hc1x hO1 hcgx hfgx
        go_wp2_with fail
        refine HT.out.mono ?_
        rintro e w3 ⟨ow3, rfl, hM3, hE3⟩
        have HM3 := hid hM3
        have HE3 := hid hE3
        clear hM3 hE3
        go_wp2
        go_end0
        exact ⟨ow3, rfl, HM3.out, HE2.out.trans HE3.out⟩

end Go.Proofs.Qxb6615079a
