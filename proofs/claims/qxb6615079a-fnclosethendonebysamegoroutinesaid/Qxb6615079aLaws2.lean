/-
  MORE LAWS: an Add of whatever delta; rows set one after the other; joins commute.
-/
import Derived.Test.Qxb6615079aLaws
namespace Go.Proofs.Qxb6615079a
open Go.RowKit

def MyTag : Nat × Nat → Prop := fun x => x ≠ (0, 0)
theorem Evo.myNone {a b : World} {oa ob : Nat → Nat × Nat} (h : Evo NoTag a oa b ob) : Evo MyTag a oa b ob := h.none
theorem Evo.myDuo {a b : World} {oa ob : Nat → Nat × Nat} {t u : Nat} (h : Evo (DuoTag t u) a oa b ob) (ht : t ≠ 0) (hu : u ≠ 0) : Evo MyTag a oa b ob :=
  h.mono fun x hx => by rintro rfl; simp [DuoTag] at hx; omega
theorem Evo.myGrp {a b : World} {oa ob : Nat → Nat × Nat} {t : Nat} (h : Evo (GrpTag t) a oa b ob) (ht : t ≠ 0) : Evo MyTag a oa b ob :=
  h.mono fun x hx => by rintro rfl; simp [GrpTag] at hx; omega
theorem Evo.myOne {a b : World} {oa ob : Nat → Nat × Nat} {tg : Nat × Nat} (h : Evo (OneTag tg) a oa b ob) (ht : tg ≠ (0, 0)) : Evo MyTag a oa b ob :=
  h.mono fun x hx => by rintro rfl; simp [OneTag] at hx; exact ht hx.symm

/-- What an Add of d does to the WaitGroup's clock. -/
def addD (d : Int) (ds xs : List Int) : List Int := if d < 0 then joinM ds xs else ds
def joinW (d : Int) (ds xs : List Int) : List Int := if d < 0 then joinL ds xs else ds

theorem addD_length (d : Int) (ds xs : List Int) : (addD d ds xs).length ≤ max ds.length xs.length := by
  unfold addD
  split
  · rw [joinM_length]; omega
  · omega

theorem addD_eq (d : Int) (ds xs : List Int) (h : ∀ x ∈ ds, 0 ≤ x) : addD d ds xs = joinW d ds xs := by
  unfold addD joinW
  split
  · exact joinM_eq ds xs h
  · rfl

theorem joinW_nonneg {d : Int} {xs ys : List Int} (h : ∀ x ∈ xs, 0 ≤ x) : ∀ x ∈ joinW d xs ys, 0 ≤ x := by
  unfold joinW
  split
  · exact joinL_nonneg h
  · exact h

theorem ext_atN {xs ys : List Int} (hl : xs.length = ys.length) (h : ∀ i, atN xs i = atN ys i) : xs = ys := by
  apply List.ext_getElem hl
  intro i h1 h2
  have := h i
  simpa [atN, h1, h2] using this

theorem joinL_at (xs ys : List Int) (i : Nat) : atN (joinL xs ys) i = if atN xs i < atN ys i then atN ys i else atN xs i := by
  by_cases hi : i < max xs.length ys.length
  · have h2 : i < (joinL xs ys).length := by rw [joinL_length]; exact hi
    have h1 : atN (joinL xs ys) i = (joinL xs ys)[i] := by
      unfold atN
      rw [List.getD_eq_getElem?_getD, List.getElem?_eq_getElem h2]
      rfl
    rw [h1]
    simp [joinL]
  · rw [atN_past (joinL xs ys) i (by rw [joinL_length]; omega), atN_past xs i (by omega), atN_past ys i (by omega)]
    simp

theorem joinW_comm (dg dh : Int) (ds xg xh : List Int) : joinW dg (joinW dh ds xh) xg = joinW dh (joinW dg ds xg) xh := by
  unfold joinW
  by_cases h1 : dg < 0 <;> by_cases h2 : dh < 0 <;> simp only [h1, h2, if_true, if_false]
  apply ext_atN
  · simp only [joinL_length]; omega
  · intro i
    simp only [joinL_at]
    omega

set_option maxHeartbeats 400000 in
theorem add_any (mb t g wb t' : Nat) (d : Int) (css : List (List Int)) (xs ds : List Int) (w : World) (ow : Nat → Nat × Nat) (htt : t ≠ t') (hm : css.length ≤ 1000000) (hx : css[g]? = some xs) (hmx : xs.length ≤ 1000000000) (hmd : ds.length ≤ 1000000000)
    (h : Mdl w ow t mb css) (hw : Wg w ow t' wb ds) :
    Calls Try.prog 19 #[.pointer (some ⟨mb, 0, none⟩), .int .i64 g, .pointer (some ⟨wb, 0, none⟩), .int .i64 d] w fun e w' => ∃ ow', e = .returned (.tuple #[]) ∧ Mdl w' ow' t mb (css.set g (tickL xs g 1)) ∧ Wg w' ow' t' wb (addD d ds xs) ∧ Evo (DuoTag t t') w ow w' ow' := by
  by_cases hd : d < 0
  · have e : addD d ds xs = joinM ds xs := if_pos hd
    rw [e]
    exact add_neg mb t g wb t' d css xs ds w ow hd htt hm hx hmx hmd h hw
  · have e : addD d ds xs = ds := if_neg hd
    rw [e]
    refine (add_pos mb t g _ d css xs w ow (by omega) hm hx hmx h).mono fun e w' ⟨ow', he, hM, hE⟩ => ⟨ow', he, hM, hw.evo hE (fun i => by simpa [GrpTag] using Ne.symm htt), hE.mono fun x hx => .inl hx⟩

/-- Rows with a tag each. -/
def RowsT (w : World) (ow : Nat → Nat × Nat) (tgs : Nat → Nat × Nat) (vs : List Value) (css : List (List Int)) : Prop :=
  vs.length = css.length ∧ ∀ i c, css[i]? = some c → ∃ v, vs[i]? = some v ∧ Row w ow (tgs i) 38 v (u32s c)

theorem Rows2.toT {w : World} {ow : Nat → Nat × Nat} {t : Nat} {vs : List Value} {css : List (List Int)} (h : Rows2 w ow t vs css) : RowsT w ow (fun i => (t, i + 2)) vs css := h

theorem RowsT.evo {T : Nat × Nat → Prop} {w w' : World} {ow ow' : Nat → Nat × Nat} {tgs : Nat → Nat × Nat} {vs : List Value} {css : List (List Int)} (h : RowsT w ow tgs vs css) (hE : Evo T w ow w' ow') (hT : ∀ i, ¬ T (tgs i)) : RowsT w' ow' tgs vs css :=
  ⟨h.1, fun i c hi => let ⟨v, hv, hr⟩ := h.2 i c hi; ⟨v, hv, hr.evo hE (hT i)⟩⟩

theorem RowsT.set {w : World} {ow : Nat → Nat × Nat} {tgs : Nat → Nat × Nat} {vs : List Value} {css : List (List Int)} {g : Nat} {vt : Value} {ys : List Int} {tg : Nat × Nat} (h : RowsT w ow tgs vs css) (hT : Row w ow tg 38 vt (u32s ys)) :
    RowsT w ow (fun i => if i = g then tg else tgs i) (vs.set g vt) (css.set g ys) := by
  refine ⟨by simpa using h.1, fun i x hi => ?_⟩
  have hlt : i < css.length := by simpa using (List.getElem?_eq_some_iff.1 hi).1
  by_cases hig : i = g
  · subst hig
    have hx : ys = x := by simpa [hlt] using hi
    subst hx
    exact ⟨vt, by simp [h.1, hlt], by simpa using hT⟩
  · rw [List.getElem?_set_ne (Ne.symm hig)] at hi
    obtain ⟨v, hv, hr⟩ := h.2 i x hi
    exact ⟨v, by rw [List.getElem?_set_ne (Ne.symm hig)]; exact hv, by simpa [hig] using hr⟩

theorem RowsT.rd {w : World} {ow : Nat → Nat × Nat} {tg : Nat × Nat} {tgs : Nat → Nat × Nat} {H N c : Nat} {vs : List Value} {css : List (List Int)} (hm : css.length ≤ maxLen) (hW : Row w ow tg 23 (.slice (some ⟨H, 0, none⟩) N c) vs) (hR : RowsT w ow tgs vs css) :
    RdUU w (.slice (some ⟨H, 0, none⟩) N c) css := by
  have hN := hW.len
  refine ⟨some ⟨H, 0, none⟩, c, by rw [hN, hR.1], (fun h => by cases h), hm, fun _ => ⟨H, 0, rfl, fun i x hi => ?_⟩⟩
  rw [Nat.zero_add]
  obtain ⟨v, hv, hr⟩ := hR.2 i x hi
  exact ⟨v, hW.cell hv, hr.rd⟩

end Go.Proofs.Qxb6615079a
