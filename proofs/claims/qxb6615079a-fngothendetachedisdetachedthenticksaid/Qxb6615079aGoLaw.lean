/-
  THE WALK of FnGoThenDetachedIsDetachedThenTick.
-/
import Derived.Test.Qxb6615079aGo
namespace Go.Proofs.Qxb6615079a
open Go.RowKit
set_option maxRecDepth 100000

/-- The rows of 'keep', nil behind them: what the law lays out first. -/
theorem laid_rows {w : World} {ow : Nat → Nat × Nat} {t N n : Nat} {vs : List Value} {css : List (List Int)} (hN : N = max css.length n) (hR : Rows2 w ow t vs css) : RowsT w ow (fun i => (t, i + 2)) (Laid vs N css.length (.slice none 0 0)) (padC css n) := by
  refine ⟨by simp [Laid, padC_length, hR.1, hN]; omega, fun i x hi => ?_⟩
  have hlt : i < N := by
    have := (List.getElem?_eq_some_iff.1 hi).1
    rw [padC_length] at this
    omega
  by_cases hic : i < css.length
  · unfold padC at hi
    rw [List.getElem?_append_left hic] at hi
    obtain ⟨v, hv, hr⟩ := hR.2 i x hi
    refine ⟨v, ?_, hr⟩
    rw [Laid, List.getElem?_append_left (by simp [hR.1]; omega), List.getElem?_take, if_pos hic]
    exact hv
  · unfold padC at hi
    rw [List.getElem?_append_right (by omega), List.getElem?_replicate] at hi
    have hx : x = [] := by
      split at hi
      · cases hi; rfl
      · cases hi
    subst hx
    refine ⟨.slice none 0 0, ?_, Row.nil _ _ _ _⟩
    rw [Laid, List.getElem?_append_right (by simp [hR.1]; omega), List.getElem?_replicate, if_pos (by simp [hR.1]; omega)]

theorem rdU_nil (w : World) : RdU w (.slice none 0 0) [] := ⟨none, 0, rfl, fun _ => ⟨rfl, rfl⟩, Nat.zero_le _, fun h => by simp at h⟩

/-- Go then Detached, as lists. -/
theorem go_then (css : List (List Int)) (g p : Nat) (xs T : List Int) (hpg : p ≠ g) : (padC (((padC css (g + 1)).set g xs).set p T) (g + 1)).set g [] = ((padC css (g + 1)).set g []).set p T := by
  rw [padC_small _ _ (by simp [padC_length]; omega), List.set_comm _ _ hpg, List.set_set]

set_option maxHeartbeats 6000000 in
theorem golaw_walk (v0 : Value) (css : List (List Int)) (pi ci : Int) (w : World) (h0 : RdUU w v0 css) :
    Calls Try.prog 6 #[v0, .int .i64 pi, .int .i64 ci] w fun e w' => e = .returned (.bool true) ∧ Below w.heap.size w w' := by
  have H0 := hid h0
  obtain ⟨a0, c0, rfl, -, hm0, -⟩ := h0
  unfold maxLen at hm0
  go_enter Try.func6, Try.ntmps6
  go_wp2_with fail
  refine (zz31 _ css pi ci w H0.out).mono ?_
  rintro e w' ⟨⟨b, rfl⟩, hw⟩
  subst w'
  cases b
  · go_wp2
    go_ret
    exact ⟨rfl, Below.refl _ _⟩
  go_wp2_with fail
  refine (nb12 _ css _ H0.out).mono ?_
  rintro e w' ⟨⟨r, rfl, hr1, hr2⟩, hw⟩
  subst w'
  have HR := hid hr2
  clear hr2
  rcases Nat.lt_or_ge 1048576 r with hr | hr
  · have hr' : (1048576 : Int) < (r : Int) := by omega
    go_wp2
    go_ret
    exact ⟨rfl, Below.refl _ _⟩
  obtain ⟨hcl, hci⟩ := HR.out hr
  have HCI := hid hci
  clear hci
  have hr' : (r : Int) ≤ 1048576 := by omega
  by_cases ht6 : ci = pi
  · subst ht6
    go_wp2_with fail
    all_goals (go_ret; exact ⟨rfl, Below.refl _ _⟩)
  have hgh0 : (ci == pi) = false := by simpa using ht6
  by_cases ht : 0 ≤ pi ∧ pi < css.length ∧ 0 ≤ ci ∧ ci ≤ 65536
  · obtain ⟨ht2, ht3, ht4, ht5⟩ := ht
    obtain ⟨p, rfl⟩ : ∃ p : Nat, pi = (p : Int) := ⟨pi.toNat, by omega⟩
    obtain ⟨g, rfl⟩ : ∃ g : Nat, ci = (g : Int) := ⟨ci.toNat, by omega⟩
    have hne : p ≠ g := by omega
    have HNE := hid hne
    clear ht6 hne
    have hpl : p < css.length := by omega
    obtain ⟨xs, hxs⟩ : ∃ xs, css[p]? = some xs := ⟨css[p], by simp⟩
    have HX := hid hxs
    have hxl : xs.length ≤ 1000000 := by have := HCI.out xs (List.mem_of_getElem? hxs); omega
    clear hxs
    have hbi : ∀ c ∈ css, c.length ≤ 1000000000 := fun c hc => by have := HCI.out c hc; omega
    have HBI := hid hbi
    clear hbi
    go_wp2_with fail
    refine (cloneUU_c _ css w (fun _ => (0, 0)) 1 (by omega) HBI.out H0.out).mono ?_
    rintro e w1 ⟨v1, ow1, rfl, hU, hE⟩
    have A1 := hid hU
    have E1 := hid hE
    clear hU hE
    go_wp2_with fail
    refine (cloneUU_c _ css w1 ow1 11 (by omega) HBI.out A1.out.rd).mono ?_
    rintro e w2 ⟨v2, ow2, rfl, hU, hE⟩
    have A2 := hid (A1.out.evo hE (fun _ h => h))
    have C2 := hid hU
    have E2 := hid (E1.out.trans hE)
    clear hU hE A1 E1
    go_wp2_with fail
    refine (cloneUU_c _ css w2 ow2 3 (by omega) HBI.out A2.out.rd).mono ?_
    rintro e w3 ⟨v3, ow3, rfl, hU, hE⟩
    have A3 := hid (A2.out.evo hE (fun _ h => h))
    have C3 := hid (C2.out.evo hE (fun _ h => h))
    have K3 := hid hU
    have E3 := hid (E2.out.trans hE)
    clear hU hE A2 C2 E2
    go_wp2_with fail
    refine (newModel_c _ css w3 ow3 1 (by omega) A3.out).mono ?_
    rintro e w4 ⟨mb1, ow4, rfl, hM, hE⟩
    have M4 := hid hM
    have C4 := hid (C3.out.evo hE (fun _ h => h))
    have K4 := hid (K3.out.evo hE (fun _ h => h))
    have E4 := hid (E3.out.trans hE).myNone
    clear hM hE A3 C3 K3 E3
    go_wp2_with fail
    refine (go_c mb1 1 p g css xs w4 ow4 (by omega) (by omega) HNE.out HX.out (by omega) M4.out).mono ?_
    rintro e w5 ⟨ow5, rfl, hM, hE⟩
    have M5 := hid hM
    have C5 := hid (C4.out.evo hE (fun _ => by simp [GrpTag]))
    have K5 := hid (K4.out.evo hE (fun _ => by simp [GrpTag]))
    have E5 := hid (E4.out.trans (hE.myGrp (by decide)))
    clear hM hE M4 C4 K4 E4
    have q1 : (((padC css (g + 1)).set g xs).set p (tickL xs p 1)).length ≤ 1000000 := by simp [padC_length]; omega
    have Q1 := hid q1
    clear q1
    go_wp2_with fail
    refine (detached_c mb1 1 g _ w5 ow5 Q1.out (by omega) M5.out).mono ?_
    rintro e w6 ⟨ow6, rfl, hM, hE⟩
    rw [go_then css g p xs _ HNE.out] at hM
    have M6 := hid hM
    have C6 := hid (C5.out.evo hE (fun _ => by simp [GrpTag]))
    have K6 := hid (K5.out.evo hE (fun _ => by simp [GrpTag]))
    have E6 := hid (E5.out.trans (hE.myGrp (by decide)))
    clear hM hE M5 C5 K5 E5 Q1
    go_wp2_with fail
    refine (newModel_c _ css w6 ow6 11 (by omega) C6.out).mono ?_
    rintro e w7 ⟨mb2, ow7, rfl, hM, hE⟩
    have N7 := hid hM
    have M7 := hid (M6.out.evo hE (fun _ h => h))
    have K7 := hid (K6.out.evo hE (fun _ h => h))
    have E7 := hid (E6.out.trans hE.myNone)
    clear hM hE M6 C6 K6 E6
    go_wp2_with fail
    refine (newWg_c _ [] w7 ow7 12 (Row.nil _ _ _ _)).mono ?_
    rintro e w8 ⟨wb, ow8, rfl, hW, hE⟩
    have X8 := hid hW
    have N8 := hid (N7.out.evo hE (fun _ h => h))
    have M8 := hid (M7.out.evo hE (fun _ h => h))
    have K8 := hid (K7.out.evo hE (fun _ h => h))
    have E8 := hid (E7.out.trans hE.myNone)
    clear hW hE N7 M7 K7 E7
    go_wp2_with fail
    refine (detached_c mb2 11 g css w8 ow8 (by omega) (by omega) N8.out).mono ?_
    rintro e w9 ⟨ow9, rfl, hM, hE⟩
    have N9 := hid hM
    have M9 := hid (M8.out.evo hE (fun _ => by simp [GrpTag]))
    have K9 := hid (K8.out.evo hE (fun _ => by simp [GrpTag]))
    have X9 := hid (X8.out.evo hE (fun _ => by simp [GrpTag]))
    have E9 := hid (E8.out.trans (hE.myGrp (by decide)))
    clear hM hE N8 M8 K8 X8 E8
    have q2 : ((padC css (g + 1)).set g []).length ≤ 1000000 := by simp [padC_length]; omega
    have q3 : ((padC css (g + 1)).set g [])[p]? = some xs := by
      rw [List.getElem?_set_ne (Ne.symm HNE.out)]
      unfold padC
      rw [List.getElem?_append_left hpl]
      exact HX.out
    have Q2 := hid q2
    have Q3 := hid q3
    clear q2 q3
    go_wp2_with fail
    refine (add_pos mb2 11 p _ 1 _ xs w9 ow9 (by decide) Q2.out Q3.out (by omega) N9.out).mono ?_
    rintro e w10 ⟨ow10, rfl, hM, hE⟩
    have N10 := hid hM
    have M10 := hid (M9.out.evo hE (fun _ => by simp [GrpTag]))
    have K10 := hid (K9.out.evo hE (fun _ => by simp [GrpTag]))
    have X10 := hid (X9.out.evo hE (fun _ => by simp [GrpTag]))
    have E10 := hid (E9.out.trans (hE.myGrp (by decide)))
    clear hM hE N9 M9 K9 X9 E9 Q2 Q3
    obtain ⟨vs, hK, hKs⟩ := K10.out
    have hfmK := hK.form
    rw [hKs.1] at hfmK
    rcases hfmK with ⟨_, hvK0⟩ | ⟨g3, c3, hvK, _, _, _, _⟩
    · have := hKs.1; rw [hvK0] at this; simp at this; omega
    subst hvK
    obtain ⟨up, hup, hrup⟩ := hKs.2 p xs HX.out
    obtain ⟨ap, cp, rfl⟩ := hrup.shapeU
    have hcp := hK.cell hup
    have RP := hid hrup.rd
    have K11 := hid hK
    have KS := hid hKs
    have hpl' : (p : Int) < (css.length : Int) := by omega
    clear hK hKs K10 hup hrup
    obtain ⟨i0, hi, hz0, hz1, hz2⟩ := info_parts info23
    obtain ⟨N, hN⟩ : ∃ N, N = max css.length (g + 1) := ⟨_, rfl⟩
    have hNN : (css.length < g + 1 ∧ N = g + 1) ∨ (g + 1 ≤ css.length ∧ N = css.length) := by omega
    have hNb : N ≤ 1000000 := by omega
    have hNc : css.length ≤ N := by omega
    have hNg : g < N := by omega
    have hNp : p < N := by omega
    have HN := hid hN
    clear hN
    rcases hNN with ⟨hlt, hn⟩ | ⟨hlt, hn⟩
    all_goals
      have HE := hid hn
      clear hn
      go_wp2_with (at_make; refine wpList_make_full _ rfl _ _ 22 rfl 0 23 i0 (.slice none 0 0) 1 Try.underlying22 hi hz0 hz1 _ _ _ _ N rfl rfl (by have := HE.out; omega) (by have := HE.out; omega) (by rw [hz2]; omega) (by unfold maxLen; omega) (Nat.zero_le _) ?_)
      intro w12 hown hgrow
      have hown' : w12.ownsRow 0 23 1 (.slice (some ⟨w10.heap.size, 0, none⟩) N N) N (madeCells #[Value.slice none 0 0] N).toList := by simpa using hown
      obtain ⟨hrow, hevo⟩ := Row.made (ow := ow10) (tg := (5, 0)) hown' hgrow
      have R12 := hid hrow
      have E12 := hid hevo
      clear hown hown' hgrow hrow hevo
      go_wp2
      go_loopw [15] (fun i wr => ∃ k : Nat, k ≤ css.length ∧ i = .int .i64 k ∧ ∃ owr, Row wr owr (5, 0) 23 (.slice (some ⟨w10.heap.size, 0, none⟩) N N) (Laid vs N k (.slice none 0 0)) ∧ Evo NoTag w10 ow10 wr owr) (fun i _ => css.length - (intOf i).toNat)
      case atStart => exact ⟨0, Nat.zero_le _, rfl, _, by simpa [Laid] using R12.out, E12.out⟩
      case round =>
        obtain ⟨k, hk, rfl, owr, hR, hE⟩ := hrel
        clear R12 E12
        by_cases hkn : k < css.length
        · have hkv : k < vs.length := by have := KS.out.1; omega
          have hkN : k < N := by omega
          obtain ⟨u, hu⟩ : ∃ u, vs[k]? = some u := ⟨vs[k], by simp⟩
          obtain ⟨au, nu, cu, rfl⟩ := KS.out.slices u (List.mem_of_getElem? hu)
          have hcs := hE.cell (K11.out.cell hu) (fun h => h)
          obtain ⟨u0, hu0⟩ : ∃ u0, (Laid vs N k (.slice none 0 0))[k]? = some u0 := ⟨(Laid vs N k (.slice none 0 0))[k]'(by simp [Laid]; omega), by simp⟩
          have hcell := hR.cell hu0
          have hfz := hR.frozen k
          have HR' := hid (laid_rowN (by rw [KS.out.1]; exact hNc) hR hu)
          have HV' := hid (hE.fresh (grownBy_setCell wr w10.heap.size k (.slice au nu cu)) (Nat.le_refl _))
          clear hR hE hu0 hu
          go_wp2
          go_roundw
          case rel => exact ⟨k + 1, by omega, by go_num, owr, HR'.out, HV'.out⟩
          case measure => simp [intOf]; omega
        · obtain rfl : k = css.length := by omega
          obtain ⟨u0, hu0⟩ : ∃ u0, (Laid vs N css.length (.slice none 0 0))[g]? = some u0 := ⟨(Laid vs N css.length (.slice none 0 0))[g]'(by simp [Laid, KS.out.1]; omega), by simp⟩
          have hcg := hR.cell hu0
          have hfg := hR.frozen g
          obtain ⟨hW1, hEs1⟩ := hR.set g (.slice none 0 0)
          have hE1 := hE.fresh (grownBy_setCell wr w10.heap.size g (.slice none 0 0)) (Nat.le_refl _)
          have T1 := (laid_rows HN.out (KS.out.evo hE1 (fun _ h => h))).set (g := g) (ys := []) (Row.nil _ _ (5, 1) _)
          have hcp1 := hE1.cell hcp (fun h => h)
          have RP1 := hid (RP.out.evo hE1 (fun _ h => h))
          obtain ⟨u1, hu1⟩ : ∃ u1, ((Laid vs N css.length (.slice none 0 0)).set g (.slice none 0 0))[p]? = some u1 := ⟨((Laid vs N css.length (.slice none 0 0)).set g (.slice none 0 0))[p]'(by simp [Laid, KS.out.1]; omega), by simp⟩
          have HW1 := hid hW1
          have HE1 := hid hE1
          have HT1 := hid T1
          have HU1 := hid hu1
          clear hR hE hu0 hEs1 hW1 hE1 T1 hu1
          go_wp2_with fail
          refine (tickU_e _ xs p 1 _ owr (6, 0) (by omega) (by omega) RP1.out).mono ?_
          rintro e w14 ⟨vt, ow14, rfl, hT, hE14⟩
          obtain ⟨at', ct', rfl⟩ := hT.shapeU
          have R14 := HW1.out.evo hE14 (fun h => h)
          have hcell := R14.cell HU1.out
          have hfz := R14.frozen p
          obtain ⟨hW2, hEs2⟩ := R14.set p (.slice at' (tickL xs p 1).length ct')
          have hEall := (HE1.out.trans hE14).fresh (grownBy_setCell w14 w10.heap.size p (.slice at' (tickL xs p 1).length ct')) (Nat.le_refl _)
          have T2 := ((HT1.out.evo hE14 (fun _ h => h)).evo hEs2 (fun i => by simp only [OneTag]; split <;> simp)).set (g := p) (hT.evo hEs2 (by simp [OneTag]))
          have RD := hid (T2.rd (by unfold maxLen; simp [padC_length]; omega) hW2)
          have M15 := hid (M10.out.evo hEall (fun _ h => h))
          have N15 := hid (N10.out.evo hEall (fun _ h => h))
          have hWg := X10.out.evo hEall (fun _ h => h)
          have E15 := hid (E10.out.trans hEall.myNone)
          obtain ⟨vw, hbw, hrw⟩ := hWg
          obtain ⟨aw, cw, hvw⟩ := hrw.shapeU
          simp only [List.length_nil] at hvw
          subst hvw
          have hcw := hbw.cell
          clear hT R14 hW2 hEs2 hEall T2 hbw hrw hE14 HW1 HE1 HT1 HU1
          go_wp2_with fail
          refine (sameState_c mb1 1 _ _ _ ow14 (by simp [padC_length]; omega) M15.out RD.out).mono ?_
          rintro e w16 ⟨rfl, n16, hw16⟩
          subst w16
          go_wp2_with fail
          refine (sameState_d mb2 11 _ _ _ _ ow14 (by simp [padC_length]; omega) N15.out RD.out).mono ?_
          rintro e w17 ⟨rfl, n17, hw17⟩
          subst w17
          go_wp2_with (first | (go_at_call 26; go_in) | fail)
          go_ret
          exact ⟨rfl, (E15.out.drewN _).mine (by simp [MyTag])⟩
  · go_wp2_with fail
    all_goals (go_ret; exact ⟨rfl, Below.refl _ _⟩)

end Go.Proofs.Qxb6615079a
