/-
  THE MODEL IN MEMORY; the walks that make it.
-/
import Derived.Test.Qxb6615079aFresh
namespace Go.Proofs.Qxb6615079a
open Go.RowKit
set_option maxRecDepth 100000

/-- A block of the call's own (a struct behind a pointer) whose cell k holds v. -/
def Box (w : World) (ow : Nat → Nat × Nat) (tg : Nat × Nat) (b k : Nat) (v : Value) : Prop :=
  ow b = tg ∧ ∃ cur ty, w.heap[b]? = some (.cells cur ty (0, 0)) ∧ cur[k]? = some v

theorem Box.evo {T : Nat × Nat → Prop} {w w' : World} {ow ow' : Nat → Nat × Nat} {tg : Nat × Nat} {b k : Nat} {v : Value} (h : Box w ow tg b k v) (hE : Evo T w ow w' ow') (hT : ¬ T tg) : Box w' ow' tg b k v := by
  obtain ⟨ht, cur, ty, hb, hc⟩ := h
  have hlt := (Array.getElem?_eq_some_iff.1 hb).1
  exact ⟨by rw [hE.same b hlt, ht], cur, ty, hE.heap hb (by rw [ht]; exact hT), hc⟩

theorem Box.cell {w : World} {ow : Nat → Nat × Nat} {tg : Nat × Nat} {b k : Nat} {v : Value} (h : Box w ow tg b k v) : w.cell? ⟨b, k, none⟩ = some v := by
  obtain ⟨_, cur, ty, hb, hc⟩ := h
  rw [cell_of_row w b k cur ty (0, 0) hb, hc]

theorem Box.frozen {w : World} {ow : Nat → Nat × Nat} {tg : Nat × Nat} {b k : Nat} {v : Value} (h : Box w ow tg b k v) (j : Nat) : w.frozen? ⟨b, j, none⟩ = false := by
  obtain ⟨_, cur, ty, hb, _⟩ := h
  exact frozen_of_row w b j cur ty hb

theorem Box.set {w : World} {ow : Nat → Nat × Nat} {tg : Nat × Nat} {b k : Nat} {v : Value} (h : Box w ow tg b k v) (u : Value) : Box (w.setCell ⟨b, k, none⟩ u) ow tg b k u ∧ Evo (OneTag tg) w ow (w.setCell ⟨b, k, none⟩ u) ow := by
  obtain ⟨ht, cur, ty, hb, hc⟩ := h
  have hk := (Array.getElem?_eq_some_iff.1 hc).1
  exact ⟨⟨ht, _, ty, heap_setCell_same w b k cur ty u hb, by simp [hk]⟩, Evo.setCell _ _ _ _ ht⟩

/-- A store into another cell of the same block. -/
theorem Box.other {w : World} {ow : Nat → Nat × Nat} {tg : Nat × Nat} {b k j : Nat} {v : Value} (h : Box w ow tg b k v) (u : Value) (hj : j ≠ k) : Box (w.setCell ⟨b, j, none⟩ u) ow tg b k v := by
  obtain ⟨ht, cur, ty, hb, hc⟩ := h
  exact ⟨ht, _, ty, heap_setCell_same w b j cur ty u hb, by rw [Array.getElem?_setIfInBounds_ne hj]; exact hc⟩

/-- A Model of group t: its struct is block mb; it holds the clocks css. -/
def Mdl (w : World) (ow : Nat → Nat × Nat) (t mb : Nat) (css : List (List Int)) : Prop :=
  ∃ v vs, Box w ow (t, 1) mb 1 v ∧ Row w ow (t, 0) 71 v vs ∧ Rows2 w ow t vs css

theorem Mdl.evo {T : Nat × Nat → Prop} {w w' : World} {ow ow' : Nat → Nat × Nat} {t mb : Nat} {css : List (List Int)} (h : Mdl w ow t mb css) (hE : Evo T w ow w' ow') (hT : ∀ i, ¬ T (t, i)) : Mdl w' ow' t mb css :=
  let ⟨v, vs, h1, h2, h3⟩ := h
  ⟨v, vs, h1.evo hE (hT 1), h2.evo hE (hT 0), h3.evo hE fun i => hT (i + 2)⟩

/-- A WaitGroup of group t: its struct is block wb; it holds the clock xs. -/
def Wg (w : World) (ow : Nat → Nat × Nat) (t wb : Nat) (xs : List Int) : Prop :=
  ∃ v, Box w ow (t, 1) wb 0 v ∧ Row w ow (t, 0) 38 v (u32s xs)

theorem Wg.evo {T : Nat × Nat → Prop} {w w' : World} {ow ow' : Nat → Nat × Nat} {t wb : Nat} {xs : List Int} (h : Wg w ow t wb xs) (hE : Evo T w ow w' ow') (hT : ∀ i, ¬ T (t, i)) : Wg w' ow' t wb xs :=
  let ⟨v, h1, h2⟩ := h
  ⟨v, h1.evo hE (hT 1), h2.evo hE (hT 0)⟩

/-- The first k of vs are laid; the rest is still nil. -/
def Laid (vs : List Value) (n k : Nat) (z : Value) : List Value := vs.take k ++ List.replicate (n - k) z
theorem laid_set (vs : List Value) (k : Nat) (z u : Value) (h : vs[k]? = some u) : (Laid vs vs.length k z).set k u = Laid vs vs.length (k + 1) z := by
  obtain ⟨hk, hu⟩ := List.getElem?_eq_some_iff.1 h
  have hl : (vs.take k).length = k := by simp; omega
  unfold Laid
  rw [List.set_append_right _ _ (by omega), hl, Nat.sub_self, List.take_succ_eq_append_getElem hk, hu]
  obtain ⟨m, hm⟩ : ∃ m, vs.length - k = m + 1 := ⟨vs.length - k - 1, by omega⟩
  have hm' : vs.length - (k + 1) = m := by omega
  rw [hm, hm', List.replicate_succ]
  simp
theorem laid_length (vs : List Value) (k : Nat) (z : Value) (h : k ≤ vs.length) : (Laid vs vs.length k z).length = vs.length := by simp [Laid]; omega
theorem laid_row {w : World} {ow : Nat → Nat × Nat} {tg : Nat × Nat} {e : TypeId} {g c k n : Nat} {vs : List Value} {z u : Value} (hn : vs.length = n) (h : Row w ow tg e (.slice (some ⟨g, 0, none⟩) n c) (Laid vs n k z)) (hu : vs[k]? = some u) :
    Row (w.setCell ⟨g, k, none⟩ u) ow tg e (.slice (some ⟨g, 0, none⟩) n c) (Laid vs n (k + 1) z) := by
  subst hn
  rw [← laid_set vs k z u hu]
  exact (h.set k u).1

set_option maxHeartbeats 400000 in
theorem toClocks_c (v : Value) (vs : List Value) (w : World) (ow : Nat → Nat × Nat) (tg0 tg : Nat × Nat) (hm : vs.length ≤ 1000000000) (hsl : ∀ u ∈ vs, ∃ a n c, u = .slice a n c) (hr : Row w ow tg0 23 v vs) :
    Calls Try.prog 46 #[v] w fun e w' => ∃ v', e = .returned v' ∧ Row w' (nw ow w.heap.size tg) tg 71 v' vs ∧ Evo NoTag w ow w' (nw ow w.heap.size tg) := by
  obtain ⟨a, c, rfl⟩ := hr.shape
  obtain ⟨i0, hi, hz0, hz1, hz2⟩ := info_parts info71
  obtain ⟨n, hn⟩ : ∃ n, vs.length = n := ⟨_, rfl⟩
  rw [hn] at hr hm ⊢
  have HN := hid hn
  have HR0 := hid hr
  have HS := hid hsl
  clear hn hr hsl
  go_enter Try.func46, Try.ntmps46
  go_wp2_with (at_make; refine wpList_make_full _ rfl _ _ 67 rfl 0 71 i0 (.slice none 0 0) 1 Try.underlying67 hi hz0 hz1 _ _ _ _ n rfl rfl rfl rfl (by rw [hz2]; omega) (by unfold maxLen; omega) (Nat.zero_le _) ?_)
  intro w1 hown hgrow
  have hown' : w1.ownsRow 0 71 1 (.slice (some ⟨w.heap.size, 0, none⟩) n n) n (madeCells #[Value.slice none 0 0] n).toList := by simpa using hown
  obtain ⟨hrow, hevo⟩ := Row.made (ow := ow) (tg := tg) hown' hgrow
  clear hown hown' hgrow
  go_wp2
  go_loopw [10] (fun i wr => ∃ k : Nat, k ≤ n ∧ i = .int .i64 k ∧ Row wr (nw ow w.heap.size tg) tg 71 (.slice (some ⟨w.heap.size, 0, none⟩) n n) (Laid vs n k (.slice none 0 0)) ∧ Evo NoTag w ow wr (nw ow w.heap.size tg)) (fun i _ => n - (intOf i).toNat)
  case atStart => exact ⟨0, Nat.zero_le _, rfl, by simpa [Laid] using hrow, hevo⟩
  case round =>
    obtain ⟨k, hk, rfl, hR, hE⟩ := hrel
    clear hrow hevo
    by_cases hkn : k < n
    · have hkv : k < vs.length := by have := HN.out; omega
      obtain ⟨u, hu⟩ : ∃ u, vs[k]? = some u := ⟨vs[k], by simp⟩
      obtain ⟨au, nu, cu, rfl⟩ := HS.out u (List.mem_of_getElem? hu)
      have hsrc := HR0.out
      rcases hsrc.form with ⟨_, h0⟩ | ⟨g, cap, hv, _, _, _, _⟩
      · rw [h0] at hkv; simp at hkv
      obtain ⟨rfl, rfl⟩ : a = some ⟨g, 0, none⟩ ∧ c = cap := by cases hv; exact ⟨rfl, rfl⟩
      have hcs := hE.cell (hsrc.cell hu) (fun h => h)
      obtain ⟨u0, hu0⟩ : ∃ u0, (Laid vs n k (.slice none 0 0))[k]? = some u0 := ⟨(Laid vs n k (.slice none 0 0))[k]'(by rw [← HN.out, laid_length _ _ _ (by omega)]; exact hkv), by simp⟩
      have hcell := hR.cell hu0
      have hfz := hR.frozen k
      have HU := hid hu
      have HR := hid hR
      have HV := hid hE
      clear hR hE hu0 hv hsrc hu
      go_wp2
      go_roundw
      case rel => exact ⟨k + 1, by omega, by go_num, laid_row HN.out HR.out HU.out, HV.out.fresh (grownBy_setCell _ _ _ _) (Nat.le_refl _)⟩
      case measure => simp [intOf]; omega
    · obtain rfl : k = n := by omega
      go_wp2
      go_ret
      refine ⟨_, rfl, ?_, hE⟩
      have e : Laid vs k k (.slice none 0 0) = vs := by simp [Laid, ← HN.out]
      rw [e] at hR
      exact hR

end Go.Proofs.Qxb6615079a
