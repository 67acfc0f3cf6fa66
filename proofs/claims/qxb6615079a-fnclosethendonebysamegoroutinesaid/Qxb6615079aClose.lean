/-
  THE WALKS of ZZnewChan, (*Model).Close, and of what reads a Chan.
-/
import Derived.Test.Qxb6615079aGo
namespace Go.Proofs.Qxb6615079a
open Go.RowKit
set_option maxRecDepth 100000

/-- A Chan of group t: its struct is block cb. -/
def Chn (w : World) (ow : Nat → Nat × Nat) (t cb : Nat) (cp sn : Int) (xs : List Int) : Prop :=
  ∃ v, Box w ow (t, 1) cb 0 (.int .i64 cp) ∧ Box w ow (t, 1) cb 2 (.int .i64 sn) ∧ Box w ow (t, 1) cb 4 v ∧ Row w ow (t, 0) 38 v (u32s xs)

theorem Chn.evo {T : Nat × Nat → Prop} {w w' : World} {ow ow' : Nat → Nat × Nat} {t cb : Nat} {cp sn : Int} {xs : List Int} (h : Chn w ow t cb cp sn xs) (hE : Evo T w ow w' ow') (hT : ∀ i, ¬ T (t, i)) : Chn w' ow' t cb cp sn xs :=
  let ⟨v, h1, h2, h3, h4⟩ := h
  ⟨v, h1.evo hE (hT 1), h2.evo hE (hT 1), h3.evo hE (hT 1), h4.evo hE (hT 0)⟩

set_option maxHeartbeats 400000 in
theorem newChan_c (cp sn : Int) (w : World) (ow : Nat → Nat × Nat) (t : Nat) :
    Calls Try.prog 16 #[.int .i64 cp, .int .i64 sn] w fun e w' => ∃ cb ow', e = .returned (.pointer (some ⟨cb, 0, none⟩)) ∧ Chn w' ow' t cb cp sn [] ∧ Evo NoTag w ow w' ow' := by
  go_enter Try.func16, Try.ntmps16
  go_wp2
  go_ret
  have hE := fun o => (Evo.retag NoTag w ow (t, 1)).trans (Evo.alloc NoTag w (nw ow w.heap.size (t, 1)) o)
  exact ⟨w.heap.size, _, by simp, ⟨_, Box.new rfl (nw_new (Nat.le_refl _)) rfl, Box.new rfl (nw_new (Nat.le_refl _)) rfl, Box.new rfl (nw_new (Nat.le_refl _)) rfl, Row.nil _ _ _ _⟩, hE _⟩

theorem Chn.store {w w1 : World} {ow ow1 : Nat → Nat × Nat} {t cb : Nat} {cp sn : Int} {old zs : List Int} {v' : Value} (h : Chn w ow t cb cp sn old) (hE : Evo (OneTag (t, 0)) w ow w1 ow1) (hR : Row w1 ow1 (t, 0) 38 v' (u32s zs)) :
    Chn (w1.setCell ⟨cb, 4, none⟩ v') ow1 t cb cp sn zs ∧ Evo (GrpTag t) w ow (w1.setCell ⟨cb, 4, none⟩ v') ow1 := by
  obtain ⟨v, h1, h2, h3, _⟩ := h
  have h1' := (h1.evo hE (by simp [OneTag])).other (j := 4) v' (by decide)
  have h2' := (h2.evo hE (by simp [OneTag])).other (j := 4) v' (by decide)
  obtain ⟨h3', hE2⟩ := (h3.evo hE (by simp [OneTag])).set v'
  exact ⟨⟨v', h1', h2', h3', hR.evo hE2 (by simp [OneTag])⟩, (hE.mono fun x hx => by simp [OneTag] at hx; simp [GrpTag, hx]).trans (hE2.mono fun x hx => by simp [OneTag] at hx; simp [GrpTag, hx])⟩

set_option maxHeartbeats 800000 in
theorem close_c (mb t g cb t' : Nat) (cp sn : Int) (css : List (List Int)) (xs old : List Int) (w : World) (ow : Nat → Nat × Nat) (htt : t ≠ t') (hm : css.length ≤ 1000000) (hx : css[g]? = some xs) (hmx : xs.length ≤ 1000000000)
    (h : Mdl w ow t mb css) (hc : Chn w ow t' cb cp sn old) :
    Calls Try.prog 18 #[.pointer (some ⟨mb, 0, none⟩), .int .i64 g, .pointer (some ⟨cb, 0, none⟩)] w fun e w' => ∃ ow', e = .returned (.tuple #[]) ∧ Mdl w' ow' t mb (css.set g (tickL xs g 1)) ∧ Chn w' ow' t' cb cp sn xs ∧ Evo (DuoTag t t') w ow w' ow' := by
  have HM := hid h
  have HC := hid hc
  obtain ⟨v, vs, hbox, hrow, hrows⟩ := h
  have hg : g < css.length := (List.getElem?_eq_some_iff.1 hx).1
  have hl := hrows.1
  obtain ⟨vg, hvg, hrg⟩ := hrows.2 g xs hx
  obtain ⟨ag, cg, rfl⟩ := hrg.shapeU
  rcases hrow.form with ⟨_, h0⟩ | ⟨og, c, rfl, _, _, _, _⟩
  · rw [h0] at hl; simp at hl; omega
  have hc1 := hbox.cell
  have hc2 := hrow.cell hvg
  have hgl : (g : Int) < (vs.length : Int) := by omega
  have hgn : g < vs.length := by omega
  have hvl : vs.length ≤ 1000000 := by omega
  have HCL := hid (clone_c (.slice ag xs.length cg) xs w ow (t', 0) hmx hrg.rd)
  have HX := hid hx
  have HT := hid htt
  clear hbox hrow hrows hrg hvg hl hx htt hc
  go_enter Try.func18, Try.ntmps18
  go_wp2_with fail
  refine HCL.out.mono ?_
  rintro e w1 ⟨v', ow1, rfl, hR1, hE1⟩
  obtain ⟨a', c', rfl⟩ := hR1.shapeU
  obtain ⟨v4, _, _, hb4, _⟩ := HC.out.evo hE1 (fun _ h => h)
  have hc4 := hb4.cell
  have hf4 := hb4.frozen 4
  obtain ⟨hC2, hE2⟩ := Chn.store HC.out (Evo.none hE1) hR1
  have hM2 := HM.out.evo hE2 (fun i => by simpa [GrpTag] using HT.out)
  have HC2 := hid hC2
  have HE2 := hid hE2
  have HTK := hid (tick_c mb t g css xs _ ow1 hm HX.out hmx hM2)
  clear hC2 hE2 hM2 hb4 hR1 hE1
  go_wp2_with fail
  refine HTK.out.mono ?_
  rintro e w3 ⟨ow3, rfl, hM3, hE3⟩
  have HM3 := hid hM3
  have HE3 := hid hE3
  clear hM3 hE3
  go_wp2
  go_end0
  exact ⟨ow3, rfl, HM3.out, HC2.out.evo HE3.out (fun i => by simpa [GrpTag] using Ne.symm HT.out), (HE2.out.mono fun x hx => .inr hx).trans (HE3.out.mono fun x hx => .inl hx)⟩

theorem zcloser_c (cb : Nat) (a : Option Addr) (n c : Nat) (w : World) (h : w.cell? ⟨cb, 4, none⟩ = some (.slice a n c)) : Calls Try.prog 23 #[.pointer (some ⟨cb, 0, none⟩)] w fun e w' => e = .returned (.slice a n c) ∧ w' = w := by
  go_enter Try.func23, Try.ntmps23
  go_wp2
  go_ret
  exact ⟨rfl, rfl⟩
theorem zcap_c (cb : Nat) (x : Int) (w : World) (h : w.cell? ⟨cb, 0, none⟩ = some (.int .i64 x)) : Calls Try.prog 24 #[.pointer (some ⟨cb, 0, none⟩)] w fun e w' => e = .returned (.int .i64 x) ∧ w' = w := by
  go_enter Try.func24, Try.ntmps24
  go_wp2
  go_ret
  exact ⟨rfl, rfl⟩
theorem zsends_c (cb : Nat) (x : Int) (w : World) (h : w.cell? ⟨cb, 2, none⟩ = some (.int .i64 x)) : Calls Try.prog 25 #[.pointer (some ⟨cb, 0, none⟩)] w fun e w' => e = .returned (.int .i64 x) ∧ w' = w := by
  go_enter Try.func25, Try.ntmps25
  go_wp2
  go_ret
  exact ⟨rfl, rfl⟩
theorem zdones_c (wb : Nat) (a : Option Addr) (n c : Nat) (w : World) (h : w.cell? ⟨wb, 0, none⟩ = some (.slice a n c)) : Calls Try.prog 26 #[.pointer (some ⟨wb, 0, none⟩)] w fun e w' => e = .returned (.slice a n c) ∧ w' = w := by
  go_enter Try.func26, Try.ntmps26
  go_wp2
  go_ret
  exact ⟨rfl, rfl⟩

end Go.Proofs.Qxb6615079a
