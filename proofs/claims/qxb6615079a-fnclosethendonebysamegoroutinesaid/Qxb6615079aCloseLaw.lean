/-
  THE WALK of FnCloseThenDoneBySameGoroutine.
-/
import Derived.Test.Qxb6615079aClose
namespace Go.Proofs.Qxb6615079a
open Go.RowKit
set_option maxRecDepth 100000

set_option maxHeartbeats 6000000 in
theorem close_walk (v0 vd : Value) (css : List (List Int)) (ds : List Int) (gi cp sn : Int) (w : World) (h0 : RdUU w v0 css) (hd : RdU w vd ds) (hnn : ∀ x ∈ ds, 0 ≤ x) :
    Calls Try.prog 3 #[v0, .int .i64 gi, .int .i64 cp, .int .i64 sn, vd] w fun e w' => e = .returned (.bool true) ∧ Below w.heap.size w w' := by
  have H0 := hid h0
  have HD := hid hd
  have HNN := hid hnn
  clear hnn
  obtain ⟨a0, c0, rfl, -, hm0, -⟩ := h0
  obtain ⟨ad, cd, rfl, -, hmd, -⟩ := hd
  unfold maxLen at hm0 hmd
  go_enter Try.func3, Try.ntmps3
  go_wp2_with fail
  refine (zz11 _ css gi cp sn _ ds w H0.out HD.out).mono ?_
  rintro e w' ⟨⟨b, rfl⟩, hw⟩
  subst w'
  cases b
  · go_wp2
    go_ret
    exact ⟨rfl, Below.refl _ _⟩
  go_wp2_with fail
  refine (nb12 _ css _ H0.out).mono ?_
  rintro e w' ⟨⟨r, rfl, hr1, hr2⟩, hw⟩
  subst w'
  have HR := hid hr2
  clear hr2
  rcases Nat.lt_or_ge 1048576 r with hr | hr
  · have hr' : (1048576 : Int) < (r : Int) := by omega
    go_wp2
    go_ret
    exact ⟨rfl, Below.refl _ _⟩
  obtain ⟨hcl, hci⟩ := HR.out hr
  have HCI := hid hci
  clear hci
  have hr' : (r : Int) ≤ 1048576 := by omega
  by_cases ht : ds.length ≤ (1048576 - r) / 4 ∧ 0 ≤ gi ∧ gi < css.length ∧ 0 ≤ cp ∧ 0 ≤ sn
  · obtain ⟨ht1, ht2, ht3, ht4, ht5⟩ := ht
    have ht1' : (ds.length : Int) ≤ (1048576 - (r : Int)) / 4 := by omega
    obtain ⟨g, rfl⟩ : ∃ g : Nat, gi = (g : Int) := ⟨gi.toNat, by omega⟩
    have hgl : g < css.length := by omega
    obtain ⟨xs, hxs⟩ : ∃ xs, css[g]? = some xs := ⟨css[g], by simp⟩
    have HX := hid hxs
    have hxl : xs.length ≤ 1000000 := by have := HCI.out xs (List.mem_of_getElem? hxs); omega
    clear hxs
    have hbi : ∀ c ∈ css, c.length ≤ 1000000000 := fun c hc => by have := HCI.out c hc; omega
    have HBI := hid hbi
    have hdl : ds.length ≤ 1000000 := by omega
    clear hbi
    go_wp2_with fail
    refine (cloneUU_c _ css w (fun _ => (0, 0)) 1 (by omega) HBI.out H0.out).mono ?_
    rintro e w1 ⟨v1, ow1, rfl, hU, hE⟩
    have A1 := hid hU
    have E1 := hid hE
    clear hU hE
    go_wp2_with fail
    refine (cloneU_e _ ds w1 ow1 (2, 0) (by omega) (HD.out.evo E1.out (fun _ h => h))).mono ?_
    rintro e w2 ⟨v2, ow2, rfl, hR, hE⟩
    have A2 := hid (A1.out.evo hE (fun _ h => h))
    have B2 := hid hR
    have E2 := hid (E1.out.trans hE)
    clear hR hE A1 E1
    go_wp2_with fail
    refine (cloneUU_c _ css w2 ow2 3 (by omega) HBI.out A2.out.rd).mono ?_
    rintro e w3 ⟨v3, ow3, rfl, hU, hE⟩
    have A3 := hid (A2.out.evo hE (fun _ h => h))
    have B3 := hid (B2.out.evo hE (fun h => h))
    have K3 := hid hU
    have E3 := hid (E2.out.trans hE)
    clear hU hE A2 B2 E2
    go_wp2_with fail
    refine (cloneU_e _ ds w3 ow3 (4, 0) (by omega) B3.out.rd).mono ?_
    rintro e w4 ⟨v4, ow4, rfl, hR, hE⟩
    have A4 := hid (A3.out.evo hE (fun _ h => h))
    have B4 := hid (B3.out.evo hE (fun h => h))
    have K4 := hid (K3.out.evo hE (fun _ h => h))
    have D4 := hid hR
    have E4 := hid (E3.out.trans hE)
    clear hR hE A3 B3 K3 E3
    go_wp2_with fail
    refine (newModel_c _ css w4 ow4 1 (by omega) A4.out).mono ?_
    rintro e w5 ⟨mb, ow5, rfl, hM, hE⟩
    have M5 := hid hM
    have B5 := hid (B4.out.evo hE (fun h => h))
    have K5 := hid (K4.out.evo hE (fun _ h => h))
    have D5 := hid (D4.out.evo hE (fun h => h))
    have E5 := hid (E4.out.trans hE)
    clear hM hE A4 B4 K4 D4 E4
    go_wp2_with fail
    refine (newChan_c cp sn w5 ow5 13).mono ?_
    rintro e w6 ⟨cb, ow6, rfl, hC, hE⟩
    have C6 := hid hC
    have M6 := hid (M5.out.evo hE (fun _ h => h))
    have B6 := hid (B5.out.evo hE (fun h => h))
    have K6 := hid (K5.out.evo hE (fun _ h => h))
    have D6 := hid (D5.out.evo hE (fun h => h))
    have E6 := hid (E5.out.trans hE)
    clear hC hE M5 B5 K5 D5 E5
    go_wp2_with fail
    refine (newWg_c _ ds w6 ow6 2 B6.out).mono ?_
    rintro e w7 ⟨wb, ow7, rfl, hW, hE⟩
    have W7 := hid hW
    have C7 := hid (C6.out.evo hE (fun _ h => h))
    have M7 := hid (M6.out.evo hE (fun _ h => h))
    have K7 := hid (K6.out.evo hE (fun _ h => h))
    have D7 := hid (D6.out.evo hE (fun h => h))
    have E7 := hid (E6.out.trans hE).myNone
    clear hW hE C6 M6 B6 K6 D6 E6
    go_wp2_with fail
    refine (close_c mb 1 g cb 13 cp sn css xs [] w7 ow7 (by decide) (by omega) HX.out (by omega) M7.out C7.out).mono ?_
    rintro e w8 ⟨ow8, rfl, hM, hC, hE⟩
    have M8 := hid hM
    have C8 := hid hC
    have W8 := hid (W7.out.evo hE (fun _ => by simp [DuoTag]))
    have K8 := hid (K7.out.evo hE (fun _ => by simp [DuoTag]))
    have D8 := hid (D7.out.evo hE (by simp [DuoTag]))
    have E8 := hid (E7.out.trans (hE.myDuo (by decide) (by decide)))
    clear hM hC hE M7 C7 W7 K7 D7 E7
    have hpl : (css.set g (tickL xs g 1)).length ≤ 1000000 := by simp; omega
    have hpg : (css.set g (tickL xs g 1))[g]? = some (tickL xs g 1) := by simp [hgl]
    have hpx : (tickL xs g 1).length ≤ 1000000000 := by rw [tickL_length]; omega
    have HPL := hid hpl
    have HPG := hid hpg
    have HPX := hid hpx
    clear hpl hpg hpx
    go_wp2_with fail
    refine (add_neg mb 1 g wb 2 (-1) _ (tickL xs g 1) ds w8 ow8 (by decide) (by decide) HPL.out HPG.out HPX.out (by omega) M8.out W8.out).mono ?_
    rintro e w9 ⟨ow9, rfl, hM, hW, hE⟩
    rw [List.set_set, tick_tick] at hM
    rw [joinM_eq ds _ HNN.out] at hW
    have M9 := hid hM
    have W9 := hid hW
    have C9 := hid (C8.out.evo hE (fun _ => by simp [DuoTag]))
    have K9 := hid (K8.out.evo hE (fun _ => by simp [DuoTag]))
    have D9 := hid (D8.out.evo hE (by simp [DuoTag]))
    have E9 := hid (E8.out.trans (hE.myDuo (by decide) (by decide)))
    clear hM hW hE M8 W8 C8 K8 D8 E8 HPL HPG
    obtain ⟨vs, hK, hKs⟩ := K9.out
    have hfmK := hK.form
    rw [hKs.1] at hfmK
    rcases hfmK with ⟨_, hvK0⟩ | ⟨g3, c3, hvK, _, _, _, _⟩
    · have := hKs.1; rw [hvK0] at this; simp at this; omega
    subst hvK
    obtain ⟨up, hup, hrup⟩ := hKs.2 g xs HX.out
    obtain ⟨ap, cp3, rfl⟩ := hrup.shapeU
    have hcp := hK.cell hup
    have RP := hid hrup.rd
    have hgl' : (g : Int) < (css.length : Int) := by omega
    clear hK hKs hup hrup
    go_wp2_with fail
    refine (tickU_e _ xs g 1 w9 ow9 (5, 0) (by omega) (by omega) RP.out).mono ?_
    rintro e w10 ⟨v10, ow10, rfl, hR, hE⟩
    have T10 := hid hR
    have M10 := hid (M9.out.evo hE (fun _ h => h))
    have W10 := hid (W9.out.evo hE (fun _ h => h))
    have C10 := hid (C9.out.evo hE (fun _ h => h))
    have K10 := hid (K9.out.evo hE (fun _ h => h))
    have D10 := hid (D9.out.evo hE (fun h => h))
    have E10 := hid (E9.out.trans hE.myNone)
    clear hR hE M9 W9 C9 K9 D9 E9 RP hcp
    go_wp2_with fail
    refine (joinU_e _ _ ds (tickL xs g 1) w10 ow10 (6, 0) (by omega) HPX.out D10.out.rd T10.out.rd).mono ?_
    rintro e w11 ⟨v11, ow11, rfl, hR, hE⟩
    obtain ⟨a11, c11, rfl⟩ := hR.shapeU
    have J11 := hid hR
    have M11 := hid (M10.out.evo hE (fun _ h => h))
    have W11 := hid (W10.out.evo hE (fun _ h => h))
    have C11 := hid (C10.out.evo hE (fun _ h => h))
    have K11 := hid (K10.out.evo hE (fun _ h => h))
    have E11 := hid (E10.out.trans hE.myNone)
    clear hR hE M10 W10 C10 K10 D10 E10 T10
    go_wp2_with fail
    refine (cloneUU_c _ css w11 ow11 15 (by omega) HBI.out K11.out.rd).mono ?_
    rintro e wA ⟨vA, owA, rfl, hUA, hEA⟩
    obtain ⟨vsA, hOA, hRA⟩ := hUA
    obtain ⟨uA, huA, hruA⟩ := hRA.2 g xs HX.out
    have hfmA := hOA.form
    rw [hRA.1] at hfmA
    rcases hfmA with ⟨_, hvA0⟩ | ⟨gA, cA, hvA, _, _, _, _⟩
    · have := hRA.1; rw [hvA0] at this; simp at this; omega
    subst hvA
    obtain ⟨vsK, hOK, hRK⟩ := K11.out.evo hEA (fun _ h => h)
    obtain ⟨uK, huK, hruK⟩ := hRK.2 g xs HX.out
    obtain ⟨aK, cK, rfl⟩ := hruK.shapeU
    have hckK := hOK.cell huK
    have RK := hid hruK.rd
    have OA := hid hOA
    have RA := hid hRA
    have HUA := hid huA
    have EA := hid hEA
    clear hOA hRA hOK hRK huK hruK hruA hEA huA
    go_wp2_with fail
    refine (tickU_e _ xs g 2 wA owA (16, 0) (by omega) (by omega) RK.out).mono ?_
    rintro e wB ⟨vB, owB, rfl, hRB, hEB⟩
    obtain ⟨aB, cB, rfl⟩ := hRB.shapeU
    have hOB := OA.out.evo hEB (fun h => h)
    have hcB := hOB.cell HUA.out
    have hfB := hOB.frozen g
    obtain ⟨hOC, hEC⟩ := hOB.set g (.slice aB (tickL xs g 2).length cB)
    have hEall := (Evo.none (T := OneTag (15, 0)) (EA.out.trans hEB)).trans hEC
    obtain ⟨wF, hwF⟩ : ∃ wF, wF = wB.setCell ⟨gA, g, none⟩ (.slice aB (tickL xs g 2).length cB) := ⟨_, rfl⟩
    have hRD := set_rd (ys := tickL xs g 2) (by unfold maxLen; omega) ((RA.out.evo hEB (fun _ h => h)).evo hEC (fun i => by simp [OneTag])) hOC (hRB.evo hEC (by simp [OneTag]))
    have hMC := M11.out.evo hEall (fun _ => by simp [OneTag])
    have hWg := W11.out.evo hEall (fun _ => by simp [OneTag])
    have hCh := C11.out.evo hEall (fun _ => by simp [OneTag])
    have hJ := J11.out.evo hEall (by simp [OneTag])
    obtain ⟨vsF, hOF, hRF⟩ := K11.out.evo hEall (fun _ => by simp [OneTag])
    obtain ⟨uF, huF, hruF⟩ := hRF.2 g xs HX.out
    obtain ⟨aF, cF, rfl⟩ := hruF.shapeU
    have hckF := hOF.cell huF
    have hrF := hruF.rd
    have hEC2 := E11.out.trans (hEall.myOne (by decide))
    obtain ⟨vw, hbw, hrw⟩ := hWg
    obtain ⟨aw, cw, rfl⟩ := hrw.shapeU
    obtain ⟨vc, hb0, hb2, hb4, hrc⟩ := hCh
    obtain ⟨aq, cc, rfl⟩ := hrc.shapeU
    have hcw := hbw.cell
    have hc0 := hb0.cell
    have hc2 := hb2.cell
    have hc4 := hb4.cell
    have hrwd := hrw.rd
    have hrcd := hrc.rd
    have hJd := hJ.rd
    rw [← hwF] at hRD hMC hckF hrF hEC2 hcw hc0 hc2 hc4 hrwd hrcd hJd
    have EC := hid hEC2
    have HWF := hid hwF
    have q23 : ∀ m, Calls Try.prog 23 #[.pointer (some ⟨cb, 0, none⟩)] (wF.drewN m) fun e w' => e = .returned (.slice aq xs.length cc) ∧ w' = wF.drewN m := fun m => zcloser_c cb aq xs.length cc (wF.drewN m) hc4
    have q24 : ∀ m, Calls Try.prog 24 #[.pointer (some ⟨cb, 0, none⟩)] (wF.drewN m) fun e w' => e = .returned (.int .i64 cp) ∧ w' = wF.drewN m := fun m => zcap_c cb cp (wF.drewN m) hc0
    have q25 : ∀ m, Calls Try.prog 25 #[.pointer (some ⟨cb, 0, none⟩)] (wF.drewN m) fun e w' => e = .returned (.int .i64 sn) ∧ w' = wF.drewN m := fun m => zsends_c cb sn (wF.drewN m) hc2
    have q26 : ∀ m, Calls Try.prog 26 #[.pointer (some ⟨wb, 0, none⟩)] (wF.drewN m) fun e w' => e = .returned (.slice aw (joinL ds (tickL xs g 1)).length cw) ∧ w' = wF.drewN m := fun m => zdones_c wb aw _ cw (wF.drewN m) hcw
    have q22a : ∀ m, Calls Try.prog 22 #[.slice aq xs.length cc, .slice aF xs.length cF] (wF.drewN m) fun e w' => e = .returned (.bool true) ∧ ∃ j, w' = (wF.drewN m).drewN j := fun m => sameU_d _ _ xs wF m hrcd hrF
    have q22b : ∀ m, Calls Try.prog 22 #[.slice aw (joinL ds (tickL xs g 1)).length cw, .slice a11 (joinL ds (tickL xs g 1)).length c11] (wF.drewN m) fun e w' => e = .returned (.bool true) ∧ ∃ j, w' = (wF.drewN m).drewN j := fun m => sameU_d _ _ _ wF m hrwd hJd
    have q27 : ∀ m, Calls Try.prog 27 #[.pointer (some ⟨mb, 0, none⟩), .slice (some ⟨gA, 0, none⟩) css.length cA] (wF.drewN m) fun e w' => e = .returned (.bool true) ∧ ∃ j, w' = (wF.drewN m).drewN j := fun m => sameState_d mb 1 _ _ wF m owB (by simp; omega) hMC hRD
    have Q23 := hid q23
    have Q24 := hid q24
    have Q25 := hid q25
    have Q26 := hid q26
    have Q22a := hid q22a
    have Q22b := hid q22b
    have Q27 := hid q27
    clear q23 q24 q25 q26 q22a q22b q27 hEC2 hwF hRD hMC hrF hcw hc0 hc2 hc4 hrwd hrcd hJd hbw hrw hb0 hb2 hb4 hrc hOF hRF huF hruF hJ hEall hOC hEC hOB hRB hEB EA OA RA HUA RK M11 W11 C11 K11 E11 J11
    go_wp2
    rw [← HWF.out]
    go_quiet ((first | (go_at_call 23; exact Calls.quiet_of_same (Q23.out _)) | (go_at_call 24; exact Calls.quiet_of_same (Q24.out _)) | (go_at_call 25; exact Calls.quiet_of_same (Q25.out _)) | (go_at_call 26; exact Calls.quiet_of_same (Q26.out _)) | (go_at_call_of 22 (Value.slice aq xs.length cc); exact Calls.quiet_of (Q22a.out _)) | (go_at_call_of 22 (Value.slice a11 (joinL ds (tickL xs g 1)).length c11); exact Calls.quiet_of (Q22b.out _)) | (go_at_call 27; exact Calls.quiet_of (Q27.out _))))
    go_wp2
    go_ret
    exact ⟨rfl, (EC.out.drewN _).mine (by simp [MyTag])⟩
  · go_wp2_with fail
    all_goals (go_ret; exact ⟨rfl, Below.refl _ _⟩)

end Go.Proofs.Qxb6615079a
