/-
  THE WALKS of ZZnewModel, ZZnewWaitGroup, sameState.
-/
import Derived.Test.Qxb6615079aModel
namespace Go.Proofs.Qxb6615079a
open Go.RowKit
set_option maxRecDepth 100000

theorem Box.new {w : World} {ow : Nat → Nat × Nat} {tg : Nat × Nat} {b k : Nat} {v : Value} {cur : Array Value} {ty : TypeId} (hb : b = w.heap.size) (ht : ow b = tg) (hk : cur[k]? = some v) : Box (w.alloc (.cells cur ty)) ow tg b k v := by
  subst hb
  exact ⟨ht, cur, ty, heap_alloc_new _ _, hk⟩

theorem Rows2.slices {w : World} {ow : Nat → Nat × Nat} {t : Nat} {vs : List Value} {css : List (List Int)} (h : Rows2 w ow t vs css) : ∀ u ∈ vs, ∃ a n c, u = .slice a n c := by
  intro u hu
  obtain ⟨i, hi⟩ := List.getElem?_of_mem hu
  have hl := (List.getElem?_eq_some_iff.1 hi).1
  rw [h.1] at hl
  obtain ⟨v, hv, hr⟩ := h.2 i css[i] (by simp)
  rw [hi] at hv
  cases hv
  obtain ⟨a, c, hv⟩ := hr.shape
  exact ⟨a, _, c, hv⟩

set_option maxHeartbeats 400000 in
theorem newModel_c (v : Value) (css : List (List Int)) (w : World) (ow : Nat → Nat × Nat) (t : Nat) (hm : css.length ≤ 1000000000) (h : UU w ow t v css) :
    Calls Try.prog 15 #[v] w fun e w' => ∃ mb ow', e = .returned (.pointer (some ⟨mb, 0, none⟩)) ∧ Mdl w' ow' t mb css ∧ Evo NoTag w ow w' ow' := by
  obtain ⟨vs, hrow, hrows⟩ := h
  obtain ⟨a, c, rfl⟩ := hrow.shape
  have HR := hid hrow
  have HS := hid hrows
  have hl : vs.length ≤ 1000000000 := by rw [hrows.1]; exact hm
  clear hrow hrows
  go_enter Try.func15, Try.ntmps15
  go_wp2_with (first | (go_at_call 45; go_in) | fail)
  obtain ⟨W5, hW⟩ : ∃ W5, W5 = ((((w.alloc (Obj.cells #[Value.map none] 66)).alloc (Obj.cells #[Value.int IntKind.u32 0] 38)).alloc (Obj.cells #[Value.slice (some { block := w.heap.size + 1, off := 0 }) 1 1] 71)).alloc
      (Obj.cells #[Value.pointer (some { block := w.heap.size, off := 0 }), Value.slice (some { block := w.heap.size + 1 + 1, off := 0 }) 1 1, Value.slice none 0 0, Value.slice none 0 0, Value.slice none 0 0, Value.slice none 0 0, Value.nilIface, Value.slice none 0 0,
          Value.slice none 0 0, Value.slice none 0 0, Value.slice none 0 0, Value.slice none 0 0, Value.slice none 0 0, Value.int IntKind.i64 0] 81)) := ⟨_, rfl⟩
  rw [← hW]
  have hE : Evo NoTag w ow W5 (nw ow w.heap.size (t, 1)) := by
    rw [hW]
    exact (((((Evo.retag _ w ow (t, 1)).trans (Evo.alloc _ _ _ _)).trans (Evo.alloc _ _ _ _)).trans (Evo.alloc _ _ _ _)).trans (Evo.alloc _ _ _ _))
  have hB : Box W5 (nw ow w.heap.size (t, 1)) (t, 1) (w.heap.size + 1 + 1 + 1) 1 (Value.slice (some { block := w.heap.size + 1 + 1, off := 0 }) 1 1) := by
    rw [hW]
    exact Box.new (by simp) (nw_new (by omega)) rfl
  clear hW
  have hr5 := HR.out.evo hE (fun h => h)
  refine (toClocks_c _ vs W5 _ (t, 0) (t, 0) hl HS.out.slices hr5).mono ?_
  rintro e w6 ⟨v6, rfl, hrow6, hE6⟩
  obtain ⟨a6, c6, rfl⟩ := hrow6.shape
  have hB6 := hB.evo hE6 (fun h => h)
  have hcell := hB6.cell
  have hfz := hB6.frozen 1
  have H6 := hid hrow6
  have HB6 := hid hB6
  have HE6 := hid (hE.trans hE6)
  clear hrow6 hB6 hE6 hB hE hr5
  go_wp2
  go_ret
  obtain ⟨hset, hEs⟩ := HB6.out.set (.slice a6 vs.length c6)
  refine ⟨_, _, rfl, ⟨_, vs, hset, H6.out.evo hEs (by simp [OneTag]), ?_⟩, HE6.out.fresh (grownBy_setCell _ _ _ _) (by omega)⟩
  exact (HS.out.evo HE6.out (fun _ h => h)).evo hEs (fun i => by simp [OneTag])

set_option maxHeartbeats 400000 in
theorem newWg_c (v : Value) (xs : List Int) (w : World) (ow : Nat → Nat × Nat) (t : Nat) (h : Row w ow (t, 0) 38 v (u32s xs)) :
    Calls Try.prog 17 #[v] w fun e w' => ∃ wb ow', e = .returned (.pointer (some ⟨wb, 0, none⟩)) ∧ Wg w' ow' t wb xs ∧ Evo NoTag w ow w' ow' := by
  obtain ⟨a, c, rfl⟩ := h.shape
  have HR := hid h
  clear h
  go_enter Try.func17, Try.ntmps17
  go_wp2
  go_ret
  have hE : Evo NoTag w ow (w.alloc (.cells #[.slice a (u32s xs).length c] 86)) (nw ow w.heap.size (t, 1)) := (Evo.retag _ w ow (t, 1)).trans (Evo.alloc _ _ _ _)
  exact ⟨w.heap.size, _, by simp, ⟨_, Box.new rfl (nw_new (Nat.le_refl _)) rfl, by simpa using HR.out.evo hE (fun h => h)⟩, by simpa using hE⟩

end Go.Proofs.Qxb6615079a
