/-
  THE WALK of FnDoneTwiceBySameGoroutine.
-/
import Derived.Test.Qxb6615079aLaws
namespace Go.Proofs.Qxb6615079a
open Go.RowKit
set_option maxRecDepth 100000

set_option maxHeartbeats 4000000 in
theorem two_walk (v0 vd : Value) (css : List (List Int)) (ds : List Int) (gi dlt : Int) (w : World) (h0 : RdUU w v0 css) (hd : RdU w vd ds) (hnn : ∀ x ∈ ds, 0 ≤ x) :
    Calls Try.prog 7 #[v0, .int .i64 gi, vd, .int .i64 dlt] w fun e w' => e = .returned (.bool true) ∧ Below w.heap.size w w' := by
  have H0 := hid h0
  have HD := hid hd
  have HNN := hid hnn
  clear hnn
  obtain ⟨a0, c0, rfl, -, hm0, -⟩ := h0
  obtain ⟨ad, cd, rfl, -, hmd, -⟩ := hd
  unfold maxLen at hm0 hmd
  go_enter Try.func7, Try.ntmps7
  go_wp2_with fail
  refine (zz33 _ css gi dlt _ ds w H0.out HD.out).mono ?_
  rintro e w' ⟨⟨b, rfl⟩, hw⟩
  subst w'
  cases b
  · go_wp2
    go_ret
    exact ⟨rfl, Below.refl _ _⟩
  go_wp2_with fail
  refine (nb12 _ css _ H0.out).mono ?_
  rintro e w' ⟨⟨r, rfl, hr1, hr2⟩, hw⟩
  subst w'
  have HR := hid hr2
  clear hr2
  rcases Nat.lt_or_ge 1048576 r with hr | hr
  · have hr' : (1048576 : Int) < (r : Int) := by omega
    go_wp2
    go_ret
    exact ⟨rfl, Below.refl _ _⟩
  obtain ⟨hcl, hci⟩ := HR.out hr
  have HCI := hid hci
  clear hci
  have hr' : (r : Int) ≤ 1048576 := by omega
  by_cases ht : ds.length ≤ (1048576 - r) / 4 ∧ 0 ≤ gi ∧ gi < css.length
  · obtain ⟨ht1, ht2, ht3⟩ := ht
    have ht1' : (ds.length : Int) ≤ (1048576 - (r : Int)) / 4 := by omega
    obtain ⟨g, rfl⟩ : ∃ g : Nat, gi = (g : Int) := ⟨gi.toNat, by omega⟩
    have hgl : g < css.length := by omega
    obtain ⟨xs, hxs⟩ : ∃ xs, css[g]? = some xs := ⟨css[g], by simp⟩
    have HX := hid hxs
    have hxl : xs.length ≤ 1000000 := by have := HCI.out xs (List.mem_of_getElem? hxs); omega
    clear hxs
    have hbi : ∀ c ∈ css, c.length ≤ 1000000000 := fun c hc => by have := HCI.out c hc; omega
    have HBI := hid hbi
    have hdl : ds.length ≤ 1000000 := by omega
    clear hbi
    go_wp2_with fail
    refine (cloneUU_c _ css w (fun _ => (0, 0)) 1 (by omega) HBI.out H0.out).mono ?_
    rintro e w1 ⟨v1, ow1, rfl, hU1, hE1⟩
    have U1 := hid hU1
    have E1 := hid hE1
    clear hU1 hE1
    go_wp2_with fail
    refine (cloneU_e _ ds w1 ow1 (2, 0) (by omega) (HD.out.evo E1.out (fun _ h => h))).mono ?_
    rintro e w2 ⟨vd2, ow2, rfl, hR2, hE2⟩
    have R2 := hid hR2
    have E2 := hid hE2
    have U2 := hid (U1.out.evo hE2 (fun _ h => h))
    clear hR2 hE2 U1
    go_wp2_with fail
    refine (cloneUU_c _ css w2 ow2 3 (by omega) HBI.out U2.out.rd).mono ?_
    rintro e w3 ⟨v3, ow3, rfl, hU3, hE3⟩
    have K3 := hid hU3
    have E3 := hid ((E1.out.trans E2.out).trans hE3)
    have U3 := hid (U2.out.evo hE3 (fun _ h => h))
    have R3 := hid (R2.out.evo hE3 (fun h => h))
    clear hU3 hE3 U2 R2 E1 E2
    go_wp2_with fail
    refine (cloneU_e _ ds w3 ow3 (4, 0) (by omega) R3.out.rd).mono ?_
    rintro e w4 ⟨v4, ow4, rfl, hR4, hE4⟩
    have D4 := hid hR4
    have E4 := hid (E3.out.trans hE4)
    have U4 := hid (U3.out.evo hE4 (fun _ h => h))
    have R4 := hid (R3.out.evo hE4 (fun h => h))
    have K4 := hid (K3.out.evo hE4 (fun _ h => h))
    clear hR4 hE4 U3 R3 K3 E3
    go_wp2_with fail
    refine (newModel_c _ css w4 ow4 1 (by omega) U4.out).mono ?_
    rintro e w5 ⟨mb, ow5, rfl, hM5, hE5⟩
    have M5 := hid hM5
    have E5 := hid (E4.out.trans hE5)
    have R5 := hid (R4.out.evo hE5 (fun h => h))
    have K5 := hid (K4.out.evo hE5 (fun _ h => h))
    have D5 := hid (D4.out.evo hE5 (fun h => h))
    clear hM5 hE5 U4 R4 K4 D4 E4
    go_wp2_with fail
    refine (newWg_c _ ds w5 ow5 2 R5.out).mono ?_
    rintro e w6 ⟨wb, ow6, rfl, hW6, hE6⟩
    have W6 := hid hW6
    have E6 := hid (E5.out.trans hE6)
    have M6 := hid (M5.out.evo hE6 (fun _ h => h))
    have K6 := hid (K5.out.evo hE6 (fun _ h => h))
    have D6 := hid (D5.out.evo hE6 (fun h => h))
    clear hW6 hE6 M5 R5 K5 D5 E5
    by_cases hneg : dlt < 0
    · go_wp2_with fail
      refine (add_neg mb 1 g wb 2 dlt css xs ds w6 ow6 hneg (by decide) (by omega) HX.out (by omega) (by omega) M6.out W6.out).mono ?_
      rintro e w7 ⟨ow7, rfl, hM7, hW7, hE7⟩
      have M7 := hid hM7
      have W7 := hid hW7
      have E7 := hid ((Evo.none (T := DuoTag 1 2) E6.out).trans hE7)
      have K7 := hid (K6.out.evo hE7 (fun i => by simp [DuoTag]))
      have D7 := hid (D6.out.evo hE7 (by simp [DuoTag]))
      clear hM7 hW7 hE7 M6 W6 K6 D6 E6
      have hpl : (css.set g (tickL xs g 1)).length ≤ 1000000 := by simp; omega
      have hpg : (css.set g (tickL xs g 1))[g]? = some (tickL xs g 1) := by simp [hgl]
      have hpx : (tickL xs g 1).length ≤ 1000000000 := by rw [tickL_length]; omega
      have hpd : (joinM ds xs).length ≤ 1000000000 := by rw [joinM_length]; omega
      have HPL := hid hpl
      have HPG := hid hpg
      have HPX := hid hpx
      have HPD := hid hpd
      clear hpl hpg hpx hpd
      go_wp2_with fail
      refine (add_neg mb 1 g wb 2 dlt _ (tickL xs g 1) (joinM ds xs) w7 ow7 hneg (by decide) HPL.out HPG.out HPX.out HPD.out M7.out W7.out).mono ?_
      rintro e w8 ⟨ow8, rfl, hM8, hW8, hE8⟩
      rw [List.set_set, tick_tick] at hM8
      rw [joinM_eq ds xs HNN.out, joinM_eq _ _ (joinL_nonneg HNN.out)] at hW8
      have M8 := hid hM8
      have W8 := hid hW8
      have E8 := hid (E7.out.trans hE8)
      have K8 := hid (K7.out.evo hE8 (fun i => by simp [DuoTag]))
      have D8 := hid (D7.out.evo hE8 (by simp [DuoTag]))
      clear hM8 hW8 hE8 M7 W7 K7 D7 E7 HPL HPG
      have hjl : (joinL ds xs).length ≤ 1000000000 := by rw [joinL_length]; omega
      obtain ⟨vs, hK, hKs⟩ := K8.out
      obtain ⟨u, hu, hru⟩ := hKs.2 g xs HX.out
      obtain ⟨au, cu, rfl⟩ := hru.shapeU
      have hfm := hK.form
      rw [hKs.1] at hfm
      rcases hfm with ⟨_, hv0⟩ | ⟨g3, c3, hv3, _, _, _, _⟩
      · have := hKs.1; rw [hv0] at this; simp at this; omega
      subst hv3
      obtain ⟨a4, c4, hv4⟩ := D8.out.shapeU
      subst hv4
      have hck := hK.cell hu
      have hgl' : (g : Int) < (css.length : Int) := by omega
      have HK := hid hK
      have HKs := hid hKs
      have hj1 : Calls Try.prog 20 #[.slice a4 ds.length c4, .slice au xs.length cu] w8.drew fun e w' => ∃ v' ow', e = .returned v' ∧ Row w' ow' (6, 0) 38 v' (u32s (joinL ds xs)) ∧ Evo NoTag w8.drew ow8 w' ow' :=
        joinU_e _ _ ds xs w8.drew ow8 (6, 0) (by omega) (by omega) D8.out.rd hru.rd
      have HJ1 := hid hj1
      have hrk : RdU w8.drew (.slice au xs.length cu) xs := hru.rd
      have HRK := hid hrk
      have M8d := hid (show Mdl w8.drew ow8 1 mb _ from M8.out)
      have W8d := hid (show Wg w8.drew ow8 2 wb _ from W8.out)
      have K8d := hid (show UU w8.drew ow8 3 _ css from K8.out)
      have E8d := hid (E8.out.trans (Evo.drew _ w8 ow8))
      clear hj1 hrk hK hKs hru hu K8 M8 W8 E8
      go_wp2
      go_region_with (first
        | (go_at_call_of 20 (Value.slice a4 ds.length c4); refine HJ1.out.mono ?_; rintro e w9 ⟨v9, ow9, rfl, hR9, hE9⟩; obtain ⟨a9, c9, rfl⟩ := hR9.shapeU; have hck9 : w9.cell? _ = some _ := hE9.cell (a := ⟨g3, g, none⟩) hck (fun h => h))
        | (go_at_call 21; refine (tickU_e _ xs g 1 _ ow9 (7, 0) (by omega) (by omega) (HRK.out.evo hE9 (fun _ h => h))).mono ?_; rintro e w10 ⟨v10, ow10, rfl, hR10, hE10⟩; obtain ⟨a10, c10, rfl⟩ := hR10.shapeU)
        | (go_at_call 20; refine (joinU_e _ _ (joinL ds xs) (tickL xs g 1) _ ow10 (8, 0) hjl HPX.out (hR9.rd.evo hE10 (fun _ h => h)) hR10.rd).mono ?_; rintro e w11 ⟨v11, ow11, rfl, hR11, hE11⟩; obtain ⟨a11, c11, rfl⟩ := hR11.shapeU))
      all_goals
        have hEr := (hE9.trans hE10).trans hE11
        have MX := hid (M8d.out.evo hEr (fun _ h => h))
        have WX := hid (W8d.out.evo hEr (fun _ h => h))
        have KX := hid (K8d.out.evo hEr (fun _ h => h))
        have DX := hid hR11
        have EX := hid (E8d.out.trans (Evo.none hEr))
        clear hEr hE9 hE10 hE11 hR9 hR10 hR11 HJ1 M8d W8d K8d E8d hck HK HKs HRK D8
        go_wp2_with fail
        refine (cloneUU_c _ css _ ow11 15 (by omega) HBI.out KX.out.rd).mono ?_
        rintro e wA ⟨vA, owA, rfl, hUA, hEA⟩
        obtain ⟨vsA, hOA, hRA⟩ := hUA
        obtain ⟨uA, huA, hruA⟩ := hRA.2 g xs HX.out
        have hfmA := hOA.form
        rw [hRA.1] at hfmA
        rcases hfmA with ⟨_, hvA0⟩ | ⟨gA, cA, hvA, _, _, _, _⟩
        · have := hRA.1; rw [hvA0] at this; simp at this; omega
        subst hvA
        obtain ⟨vsK, hOK, hRK⟩ := KX.out.evo hEA (fun _ h => h)
        obtain ⟨uK, huK, hruK⟩ := hRK.2 g xs HX.out
        obtain ⟨aK, cK, rfl⟩ := hruK.shapeU
        have hckK := hOK.cell huK
        have RK := hid hruK.rd
        have OA := hid hOA
        have RA := hid hRA
        have HUA := hid huA
        have EA := hid hEA
        clear hOA hRA hOK hRK huK hruK hruA hEA huA
        go_wp2_with fail
        refine (tickU_e _ xs g 2 wA owA (16, 0) (by omega) (by omega) RK.out).mono ?_
        rintro e wB ⟨vB, owB, rfl, hRB, hEB⟩
        obtain ⟨aB, cB, rfl⟩ := hRB.shapeU
        have hOB := OA.out.evo hEB (fun h => h)
        have hcB := hOB.cell HUA.out
        have hfB := hOB.frozen g
        obtain ⟨hOC, hEC⟩ := hOB.set g (.slice aB (tickL xs g 2).length cB)
        have hEall := (Evo.none (T := OneTag (15, 0)) (EA.out.trans hEB)).trans hEC
        have RD := hid (set_rd (ys := tickL xs g 2) (by unfold maxLen; omega) ((RA.out.evo hEB (fun _ h => h)).evo hEC (fun i => by simp [OneTag])) hOC (hRB.evo hEC (by simp [OneTag])))
        have MC := hid (MX.out.evo hEall (fun _ => by simp [OneTag]))
        have hWg := WX.out.evo hEall (fun _ => by simp [OneTag])
        have DC := hid (DX.out.evo hEall (by simp [OneTag])).rd
        have EC := hid ((EX.out.mono (T' := fun x => x ≠ (0, 0)) (fun x hx => by rintro rfl; simp [DuoTag] at hx)).trans (hEall.mono (fun x hx => by rintro rfl; simp [OneTag] at hx)))
        obtain ⟨vw, hbw, hrw⟩ := hWg
        obtain ⟨aw, cw, rfl⟩ := hrw.shapeU
        have hcw := hbw.cell
        have RW := hid hrw.rd
        clear hRB hEB hOB hOC hEC hEall hbw hrw EA OA RA HUA
        go_wp2_with (first | (go_at_call 26; go_in) | fail)
        refine (sameU_c _ _ _ _ RW.out DC.out).mono ?_
        rintro e w13 ⟨rfl, n13, hw13⟩
        subst w13
        go_wp2_with fail
        refine (sameState_d mb 1 _ _ _ _ owB (by simp; omega) MC.out RD.out).mono ?_
        rintro e w14 ⟨rfl, n14, hw14⟩
        subst w14
        go_wp2
        go_ret
        exact ⟨rfl, (EC.out.drewN _).mine (by simp)⟩
    · have hneg' : 0 ≤ dlt := by omega
      go_wp2_with fail
      refine (add_pos mb 1 g _ dlt css xs w6 ow6 hneg' (by omega) HX.out (by omega) M6.out).mono ?_
      rintro e w7 ⟨ow7, rfl, hM7, hE7⟩
      have M7 := hid hM7
      have E7 := hid ((Evo.none (T := DuoTag 1 2) E6.out).trans (hE7.mono fun x hx => .inl hx))
      have W7 := hid (W6.out.evo hE7 (fun i => by simp [GrpTag]))
      have K7 := hid (K6.out.evo hE7 (fun i => by simp [GrpTag]))
      have D7 := hid (D6.out.evo hE7 (by simp [GrpTag]))
      clear hM7 hE7 M6 W6 K6 D6 E6
      have hpl : (css.set g (tickL xs g 1)).length ≤ 1000000 := by simp; omega
      have hpg : (css.set g (tickL xs g 1))[g]? = some (tickL xs g 1) := by simp [hgl]
      have hpx : (tickL xs g 1).length ≤ 1000000000 := by rw [tickL_length]; omega
      have HPL := hid hpl
      have HPG := hid hpg
      have HPX := hid hpx
      clear hpl hpg hpx
      go_wp2_with fail
      refine (add_pos mb 1 g _ dlt _ (tickL xs g 1) w7 ow7 hneg' HPL.out HPG.out HPX.out M7.out).mono ?_
      rintro e w8 ⟨ow8, rfl, hM8, hE8⟩
      rw [List.set_set, tick_tick] at hM8
      have MX := hid hM8
      have EX := hid (E7.out.trans (hE8.mono fun x hx => .inl hx))
      have WX := hid (W7.out.evo hE8 (fun i => by simp [GrpTag]))
      have KX := hid (K7.out.evo hE8 (fun i => by simp [GrpTag]))
      have DX := hid (D7.out.evo hE8 (by simp [GrpTag]))
      clear hM8 hE8 M7 W7 K7 D7 E7 HPL HPG HPX
      have hgl' : (g : Int) < (css.length : Int) := by omega
      obtain ⟨vsK0, hOK0, hRK0⟩ := KX.out
      have hfmK := hOK0.form
      rw [hRK0.1] at hfmK
      rcases hfmK with ⟨_, hvK0⟩ | ⟨g3, c3, hvK, _, _, _, _⟩
      · have := hRK0.1; rw [hvK0] at this; simp at this; omega
      subst hvK
      clear hOK0 hRK0
      go_wp2_with fail
      refine (cloneUU_c _ css _ ow8 15 (by omega) HBI.out KX.out.rd).mono ?_
      rintro e wA ⟨vA, owA, rfl, hUA, hEA⟩
      obtain ⟨vsA, hOA, hRA⟩ := hUA
      obtain ⟨uA, huA, hruA⟩ := hRA.2 g xs HX.out
      have hfmA := hOA.form
      rw [hRA.1] at hfmA
      rcases hfmA with ⟨_, hvA0⟩ | ⟨gA, cA, hvA, _, _, _, _⟩
      · have := hRA.1; rw [hvA0] at this; simp at this; omega
      subst hvA
      obtain ⟨vsK, hOK, hRK⟩ := KX.out.evo hEA (fun _ h => h)
      obtain ⟨uK, huK, hruK⟩ := hRK.2 g xs HX.out
      obtain ⟨aK, cK, rfl⟩ := hruK.shapeU
      have hckK := hOK.cell huK
      have RK := hid hruK.rd
      have OA := hid hOA
      have RA := hid hRA
      have HUA := hid huA
      have EA := hid hEA
      clear hOA hRA hOK hRK huK hruK hruA hEA huA
      go_wp2_with fail
      refine (tickU_e _ xs g 2 wA owA (16, 0) (by omega) (by omega) RK.out).mono ?_
      rintro e wB ⟨vB, owB, rfl, hRB, hEB⟩
      obtain ⟨aB, cB, rfl⟩ := hRB.shapeU
      have hOB := OA.out.evo hEB (fun h => h)
      have hcB := hOB.cell HUA.out
      have hfB := hOB.frozen g
      obtain ⟨hOC, hEC⟩ := hOB.set g (.slice aB (tickL xs g 2).length cB)
      have hEall := (Evo.none (T := OneTag (15, 0)) (EA.out.trans hEB)).trans hEC
      have RD := hid (set_rd (ys := tickL xs g 2) (by unfold maxLen; omega) ((RA.out.evo hEB (fun _ h => h)).evo hEC (fun i => by simp [OneTag])) hOC (hRB.evo hEC (by simp [OneTag])))
      have MC := hid (MX.out.evo hEall (fun _ => by simp [OneTag]))
      have hWg := WX.out.evo hEall (fun _ => by simp [OneTag])
      have DC := hid (DX.out.evo hEall (by simp [OneTag])).rd
      have EC := hid ((EX.out.mono (T' := fun x => x ≠ (0, 0)) (fun x hx => by rintro rfl; simp [DuoTag] at hx)).trans (hEall.mono (fun x hx => by rintro rfl; simp [OneTag] at hx)))
      obtain ⟨vw, hbw, hrw⟩ := hWg
      obtain ⟨aw, cw, rfl⟩ := hrw.shapeU
      have hcw := hbw.cell
      have RW := hid hrw.rd
      clear hRB hEB hOB hOC hEC hEall hbw hrw EA OA RA HUA
      go_wp2_with (first | (go_at_call 26; go_in) | fail)
      refine (sameU_c _ _ _ _ RW.out DC.out).mono ?_
      rintro e w13 ⟨rfl, n13, hw13⟩
      subst w13
      go_wp2_with fail
      refine (sameState_d mb 1 _ _ _ _ owB (by simp; omega) MC.out RD.out).mono ?_
      rintro e w14 ⟨rfl, n14, hw14⟩
      subst w14
      go_wp2
      go_ret
      exact ⟨rfl, (EC.out.drewN _).mine (by simp)⟩
  · go_wp2_with fail
    all_goals (go_ret; exact ⟨rfl, Below.refl _ _⟩)

end Go.Proofs.Qxb6615079a
