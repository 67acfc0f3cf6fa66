/-
  THE WALKS of cloneU, cloneUU.
-/
import Derived.Test.Qxb6615079aBase2
namespace Go.Proofs.Qxb6615079a
open Go.RowKit
set_option maxRecDepth 100000

theorem cloneU_nil (cap : Nat) (w : World) : Calls Try.prog 14 #[.slice none 0 cap] w fun e w' => e = .returned (.slice none 0 0) ∧ w' = w := by
  have hn := fun w => Lib.run_eql_slice_nil (P := Try.prog) w 23 38 none 0 cap 0 0 Try.underlying23
  go_enter Try.func14, Try.ntmps14
  go_wp2
  go_ret
  exact ⟨rfl, rfl⟩

set_option maxHeartbeats 400000 in
theorem cloneU_some (a : Addr) (xs : List Int) (cap : Nat) (w : World) (ow : Nat → Nat × Nat) (tg : Nat × Nat) (hm : xs.length ≤ 1000000000) (hr : RdU w (.slice (some a) xs.length cap) xs) :
    Calls Try.prog 14 #[.slice (some a) xs.length cap] w fun e w' => ∃ v', e = .returned v' ∧ Row w' (nw ow w.heap.size tg) tg 38 v' (u32s xs) ∧ Evo NoTag w ow w' (nw ow w.heap.size tg) := by
  have hn := fun w => Lib.run_eql_slice_nil (P := Try.prog) w 23 38 (some a) xs.length cap 0 0 Try.underlying23
  obtain ⟨i0, hi, hz0, hz1, hz2⟩ := info_parts info38
  go_enter Try.func14, Try.ntmps14
  go_wp2_with (at_make; refine wpList_make_full _ rfl _ _ 23 rfl 0 38 i0 (.int .u32 0) 1 Try.underlying23 hi hz0 hz1 _ _ _ _ xs.length rfl rfl rfl rfl (by rw [hz2]; omega) (by unfold maxLen; omega) (Nat.zero_le _) ?_)
  intro w1 hown hgrow
  have hown' : w1.ownsRow 0 38 1 (.slice (some ⟨w.heap.size, 0, none⟩) xs.length xs.length) xs.length (madeCells #[Value.int IntKind.u32 0] xs.length).toList := by simpa using hown
  obtain ⟨hrow, hevo⟩ := Row.made (ow := ow) (tg := tg) hown' hgrow
  obtain ⟨w2, hcopy, hrow2, hevo2⟩ := run_copy_u 23 Try.underlying23 hrow (hr.evo hevo (fun _ h => h)) (Nat.le_refl _) 3
  have E := hid (hevo.fresh hevo2 (Nat.le_refl _))
  clear hown hown' hgrow hrow hevo hevo2
  go_wp2
  go_ret
  refine ⟨_, rfl, ?_, E.out⟩
  simpa using hrow2

theorem cloneU_c (v : Value) (xs : List Int) (w : World) (ow : Nat → Nat × Nat) (tg : Nat × Nat) (hm : xs.length ≤ 1000000000) (hr : RdU w v xs) :
    Calls Try.prog 14 #[v] w fun e w' => ∃ v', e = .returned v' ∧ Row w' (nw ow w.heap.size tg) tg 38 v' (u32s xs) ∧ Evo NoTag w ow w' (nw ow w.heap.size tg) := by
  have hr0 := hr
  obtain ⟨a, cap, rfl, h0, _, _⟩ := hr
  cases a with
  | some a => exact cloneU_some a xs cap w ow tg hm hr0
  | none =>
    obtain ⟨rfl, rfl⟩ := h0 rfl
    refine (cloneU_nil 0 w).mono fun e w' ⟨he, hw⟩ => ?_
    subst hw
    exact ⟨_, he, Row.nil _ _ _ _, Evo.retag _ _ _ _⟩

theorem cloneUU_nil (w : World) : Calls Try.prog 13 #[.slice none 0 0] w fun e w' => e = .returned (.slice none 0 0) ∧ w' = w := by
  have hn := fun w => Lib.run_eql_slice_nil (P := Try.prog) w 22 23 none 0 0 0 0 Try.underlying22
  go_enter Try.func13, Try.ntmps13
  go_wp2
  go_ret
  exact ⟨rfl, rfl⟩

set_option maxHeartbeats 400000 in
theorem cloneUU_some (a : Addr) (css : List (List Int)) (cap : Nat) (w : World) (ow : Nat → Nat × Nat) (t : Nat) (hm : css.length ≤ 1000000000) (hmi : ∀ c ∈ css, c.length ≤ 1000000000) (hr : RdUU w (.slice (some a) css.length cap) css) :
    Calls Try.prog 13 #[.slice (some a) css.length cap] w fun e w' => ∃ v' ow', e = .returned v' ∧ UU w' ow' t v' css ∧ Evo NoTag w ow w' ow' := by
  have hn := fun w => Lib.run_eql_slice_nil (P := Try.prog) w 22 23 (some a) css.length cap 0 0 Try.underlying22
  obtain ⟨i0, hi, hz0, hz1, hz2⟩ := info_parts info23
  have HI := hid hmi
  clear hmi
  go_enter Try.func13, Try.ntmps13
  go_wp2_with (at_make; refine wpList_make_full _ rfl _ _ 22 rfl 0 23 i0 (.slice none 0 0) 1 Try.underlying22 hi hz0 hz1 _ _ _ _ css.length rfl rfl rfl rfl (by rw [hz2]; omega) (by unfold maxLen; omega) (Nat.zero_le _) ?_)
  intro w1 hown hgrow
  have hown' : w1.ownsRow 0 23 1 (.slice (some ⟨w.heap.size, 0, none⟩) css.length css.length) css.length (madeCells #[Value.slice none 0 0] css.length).toList := by simpa using hown
  obtain ⟨hrow, hevo⟩ := Row.made (ow := ow) (tg := (t, 0)) hown' hgrow
  have HP : Part w1 (nw ow w.heap.size (t, 0)) t (.slice (some ⟨w.heap.size, 0, none⟩) css.length css.length) css.length css 0 := ⟨_, by simp, hrow, fun j hj => by omega⟩
  clear hown hown' hgrow hrow
  go_wp2
  go_loopw [4] (fun i wr => ∃ k : Nat, k ≤ css.length ∧ i = .int .i64 k ∧ ∃ owr, Part wr owr t (.slice (some ⟨w.heap.size, 0, none⟩) css.length css.length) css.length css k ∧ Evo NoTag w ow wr owr) (fun i _ => css.length - (intOf i).toNat)
  case atStart => exact ⟨0, Nat.zero_le _, rfl, _, HP, hevo⟩
  case round =>
    obtain ⟨k, hk, rfl, owr, hp, hev⟩ := hrel
    by_cases hlt : k < css.length
    · obtain ⟨a', cap', hv, _, _, hc⟩ := hr.evo hev (fun _ h => h)
      cases hv
      obtain ⟨b, off, hb, hcell⟩ := hc (by omega)
      cases hb
      obtain ⟨x, hx⟩ : ∃ x, css[k]? = some x := ⟨css[k], by simp⟩
      have hxl := HI.out x (List.mem_of_getElem? hx)
      obtain ⟨u, hu, hru⟩ := hcell k x hx
      have hru' := hru
      obtain ⟨au, cu, rfl, _, _, _⟩ := hru
      have HX := hid hx
      clear hc hcell HP hevo hx
      go_wp2_with fail
      refine (cloneU_c _ x _ owr (t, k + 2) hxl hru').mono ?_
      rintro e w2 ⟨v', rfl, hrow, hev2⟩
      obtain ⟨av, cv, rfl⟩ := hrow.shape
      have hP := Part.step hp hlt (Nat.le_refl _) hev hev2 HX.out hrow
      obtain ⟨hfz, ux, hux⟩ := (Part.frozen hp k hlt)
      have hux2 := hev2.cell hux (fun h => h)
      have hfz2 := (hev2.frozen hux (fun h => h)).trans hfz
      clear hux hfz
      go_wp2
      go_roundw
      case rel => exact ⟨k + 1, by omega, by go_num, _, by simpa using hP.1, by simpa using hP.2⟩
      case measure => simp [intOf]; omega
    · obtain rfl : k = css.length := by omega
      go_wp2
      go_ret
      exact ⟨_, owr, rfl, hp.all, hev⟩

theorem cloneUU_c (v : Value) (css : List (List Int)) (w : World) (ow : Nat → Nat × Nat) (t : Nat) (hm : css.length ≤ 1000000000) (hmi : ∀ c ∈ css, c.length ≤ 1000000000) (hr : RdUU w v css) :
    Calls Try.prog 13 #[v] w fun e w' => ∃ v' ow', e = .returned v' ∧ UU w' ow' t v' css ∧ Evo NoTag w ow w' ow' := by
  have hr0 := hr
  obtain ⟨a, cap, rfl, h0, _, _⟩ := hr
  cases a with
  | some a => exact cloneUU_some a css cap w ow t hm hmi hr0
  | none =>
    obtain ⟨rfl, rfl⟩ := h0 rfl
    refine (cloneUU_nil w).mono fun e w' ⟨he, hw⟩ => ?_
    subst hw
    exact ⟨_, ow, he, ⟨[], Row.nil _ _ _ _, rfl, fun i c hi => by simp at hi⟩, Evo.refl _ _ _⟩

end Go.Proofs.Qxb6615079a
