/-
  THE WALK of (*Model).Add.
-/
import Derived.Test.Qxb6615079aJoin
namespace Go.Proofs.Qxb6615079a
open Go.RowKit
set_option maxRecDepth 100000

def DuoTag (t u : Nat) : Nat × Nat → Prop := fun x => x.1 = t ∨ x.1 = u

/-- The WaitGroup's clock is set to another row of the same tag. -/
theorem Wg.store {w w1 : World} {ow ow1 : Nat → Nat × Nat} {t wb : Nat} {v v' : Value} {zs : List Int} (hB : Box w ow (t, 1) wb 0 v) (hE : Evo (OneTag (t, 0)) w ow w1 ow1) (hR : Row w1 ow1 (t, 0) 38 v' (u32s zs)) :
    Wg (w1.setCell ⟨wb, 0, none⟩ v') ow1 t wb zs ∧ Evo (GrpTag t) w ow (w1.setCell ⟨wb, 0, none⟩ v') ow1 := by
  obtain ⟨hB2, hE2⟩ := (hB.evo hE (by simp [OneTag])).set v'
  exact ⟨⟨v', hB2, hR.evo hE2 (by simp [OneTag])⟩, (hE.mono fun x hx => by simp [OneTag] at hx; simp [GrpTag, hx]).trans (hE2.mono fun x hx => by simp [OneTag] at hx; simp [GrpTag, hx])⟩

set_option maxHeartbeats 400000 in
theorem add_pos (mb t g : Nat) (vwp : Value) (d : Int) (css : List (List Int)) (xs : List Int) (w : World) (ow : Nat → Nat × Nat) (hd : 0 ≤ d) (hm : css.length ≤ 1000000) (hx : css[g]? = some xs) (hmx : xs.length ≤ 1000000000) (h : Mdl w ow t mb css) :
    Calls Try.prog 19 #[.pointer (some ⟨mb, 0, none⟩), .int .i64 g, vwp, .int .i64 d] w fun e w' => ∃ ow', e = .returned (.tuple #[]) ∧ Mdl w' ow' t mb (css.set g (tickL xs g 1)) ∧ Evo (GrpTag t) w ow w' ow' := by
  have ht := tick_c mb t g css xs w ow hm hx hmx h
  have HT := hid ht
  clear ht h hx
  go_enter Try.func19, Try.ntmps19
  go_wp2_with fail
  refine HT.out.mono ?_
  rintro e w' ⟨ow', rfl, hM, hE⟩
  have HM := hid hM
  have HE := hid hE
  clear hM hE
  go_wp2
  go_end0
  exact ⟨ow', rfl, HM.out, HE.out⟩

set_option maxHeartbeats 800000 in
theorem add_neg (mb t g wb t' : Nat) (d : Int) (css : List (List Int)) (xs ds : List Int) (w : World) (ow : Nat → Nat × Nat) (hd : d < 0) (htt : t ≠ t') (hm : css.length ≤ 1000000) (hx : css[g]? = some xs) (hmx : xs.length ≤ 1000000000) (hmd : ds.length ≤ 1000000000)
    (h : Mdl w ow t mb css) (hw : Wg w ow t' wb ds) :
    Calls Try.prog 19 #[.pointer (some ⟨mb, 0, none⟩), .int .i64 g, .pointer (some ⟨wb, 0, none⟩), .int .i64 d] w fun e w' => ∃ ow', e = .returned (.tuple #[]) ∧ Mdl w' ow' t mb (css.set g (tickL xs g 1)) ∧ Wg w' ow' t' wb (joinM ds xs) ∧ Evo (DuoTag t t') w ow w' ow' := by
  have h0 := h
  obtain ⟨v, vs, hbox, hrow, hrows⟩ := h
  obtain ⟨vd, hboxw, hroww⟩ := hw
  have hg : g < css.length := (List.getElem?_eq_some_iff.1 hx).1
  have hl := hrows.1
  obtain ⟨vg, hvg, hrg⟩ := hrows.2 g xs hx
  obtain ⟨ag, cg, rfl⟩ := hrg.shapeU
  obtain ⟨ad, cd, rfl⟩ := hroww.shapeU
  rcases hrow.form with ⟨_, h0⟩ | ⟨og, c, rfl, _, _, _, _⟩
  · rw [h0] at hl; simp at hl; omega
  have hc1 := hbox.cell
  have hc2 := hrow.cell hvg
  have hcw := hboxw.cell
  have hgl : (g : Int) < (vs.length : Int) := by omega
  have hgn : g < vs.length := by omega
  have hvl : vs.length ≤ 1000000 := by omega
  have hj : Calls Try.prog 49 #[.slice ad ds.length cd, .slice ag xs.length cg] w.drew fun e w' => ∃ v' ow', e = .returned v' ∧ Row w' ow' (t', 0) 38 v' (u32s (joinM ds xs)) ∧ Evo (OneTag (t', 0)) w.drew ow w' ow' :=
    join_c _ _ ds xs w.drew ow (t', 0) (t, g + 2) (by simp) hmd hmx hroww hrg
  have HJ := hid hj
  have HB := hid (show Box w.drew ow (t', 1) wb 0 _ from hboxw)
  have HM := hid (show Mdl w.drew ow t mb css from h0)
  have HX := hid hx
  have HT := hid htt
  clear hj hboxw h0 hx hbox hrow hrows hroww hrg hvg hl htt
  go_enter Try.func19, Try.ntmps19
  go_wp2
  go_region_with ((go_at_call 49; refine HJ.out.mono ?_; rintro e w1 ⟨v', ow1, rfl, hR1, hE1⟩; obtain ⟨a', c', rfl⟩ := hR1.shapeU; have hB1 := HB.out.evo hE1 (by simp [OneTag]); have hcw1 := hB1.cell; have hfw1 := hB1.frozen 0))
  all_goals
    obtain ⟨hW2, hE2⟩ := Wg.store HB.out hE1 hR1
    have hM2 := HM.out.evo hE2 (fun i => by simpa [GrpTag] using HT.out)
    have HW2 := hid hW2
    have HE2 := hid hE2
    have HC := hid (tick_c mb t g css xs _ ow1 hm HX.out hmx hM2)
    clear hW2 hE2 hM2 hB1 hcw1 hfw1 hR1 hE1
    go_wp2_with fail
    refine HC.out.mono ?_
    rintro e w3 ⟨ow3, rfl, hM3, hE3⟩
    have HM3 := hid hM3
    have HE3 := hid hE3
    clear hM3 hE3
    go_wp2
    go_end0
    refine ⟨ow3, rfl, HM3.out, HW2.out.evo HE3.out (fun i => by simpa [GrpTag] using Ne.symm HT.out), ?_⟩
    exact ((Evo.drew _ w ow).trans (HE2.out.mono fun x hx => .inr hx)).trans (HE3.out.mono fun x hx => .inl hx)

end Go.Proofs.Qxb6615079a
