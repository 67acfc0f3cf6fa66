/-
  PLAIN LAWS on clocks, and the law functions' own 'want'.
-/
import Derived.Test.Qxb6615079aDet
namespace Go.Proofs.Qxb6615079a
open Go.RowKit

theorem atN_nonneg {xs : List Int} (h : ∀ x ∈ xs, 0 ≤ x) (i : Nat) : 0 ≤ atN xs i := by
  unfold atN
  rw [List.getD_eq_getElem?_getD]
  cases hx : xs[i]? with
  | none => simp
  | some x => exact h x (List.mem_of_getElem? hx)

theorem atN_past (xs : List Int) (i : Nat) (h : xs.length ≤ i) : atN xs i = 0 := by
  unfold atN
  rw [List.getD_eq_getElem?_getD, List.getElem?_eq_none h]
  rfl

theorem atN_pad (xs : List Int) (n i : Nat) : atN (padTo xs n) i = atN xs i := padTo_get xs n i

theorem joinM_length (xs ys : List Int) : (joinM xs ys).length = max xs.length ys.length := by rw [joinM, mxTo_length, padTo_length]

theorem joinM_eq (xs ys : List Int) (h : ∀ x ∈ xs, 0 ≤ x) : joinM xs ys = joinL xs ys := by
  apply List.ext_getElem
  · rw [joinM_length, joinL_length]
  · intro i h1 h2
    simp only [joinM, mxTo, joinL, List.getElem_map, List.getElem_range, atN_pad]
    by_cases hi : i < ys.length
    · rw [if_pos hi]
    · rw [if_neg hi, atN_past ys i (by omega)]
      have := atN_nonneg h i
      rw [if_neg (by omega)]

theorem joinL_nonneg {xs ys : List Int} (h : ∀ x ∈ xs, 0 ≤ x) : ∀ x ∈ joinL xs ys, 0 ≤ x := by
  intro x hx
  simp only [joinL, List.mem_map, List.mem_range] at hx
  obtain ⟨i, _, rfl⟩ := hx
  have := atN_nonneg h i
  split <;> omega

theorem tickL_at (xs : List Int) (g : Nat) (k : Int) : atN (tickL xs g k) g = (atN xs g + k) % 4294967296 := by
  have : g < (padTo xs (g + 1)).length := by rw [padTo_length]; omega
  simp [tickL, atN, this]

theorem tick_tick (xs : List Int) (g : Nat) : tickL (tickL xs g 1) g 1 = tickL xs g 2 := by
  have hl := tickL_length xs g 1
  rw [tickL, padTo_small _ _ (by rw [hl]; omega), tickL_at]
  rw [tickL, List.set_set, tickL]
  congr 1
  omega

/-- A row of an own slice of slices is set anew: what the whole then reads as. -/
theorem set_rd {w : World} {ow : Nat → Nat × Nat} {tg tg2 : Nat × Nat} {t H N c g : Nat} {vs : List Value} {css : List (List Int)} {vt : Value} {ys : List Int} (hm : css.length ≤ maxLen) (hR : Rows2 w ow t vs css)
    (hW : Row w ow tg 23 (.slice (some ⟨H, 0, none⟩) N c) (vs.set g vt)) (hT : Row w ow tg2 38 vt (u32s ys)) : RdUU w (.slice (some ⟨H, 0, none⟩) N c) (css.set g ys) := by
  have hN := hW.len
  have hl : (css.set g ys).length = N := by rw [hN]; simp [hR.1]
  refine ⟨some ⟨H, 0, none⟩, c, by rw [hl], (fun h => by cases h), by simpa using hm, fun _ => ⟨H, 0, rfl, fun i x hi => ?_⟩⟩
  rw [Nat.zero_add]
  have hlt : i < css.length := by simpa using (List.getElem?_eq_some_iff.1 hi).1
  by_cases hig : i = g
  · subst hig
    have hx : ys = x := by simpa [hlt] using hi
    subst hx
    exact ⟨vt, hW.cell (by simp [hR.1, hlt]), hT.rd⟩
  · rw [List.getElem?_set_ne (Ne.symm hig)] at hi
    obtain ⟨v, hv, hr⟩ := hR.2 i x hi
    exact ⟨v, hW.cell (by rw [List.getElem?_set_ne (Ne.symm hig)]; exact hv), hr.rd⟩

end Go.Proofs.Qxb6615079a
