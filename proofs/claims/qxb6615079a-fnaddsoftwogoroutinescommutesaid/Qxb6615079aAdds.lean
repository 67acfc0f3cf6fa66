/-
  THE WALK of FnAddsOfTwoGoroutinesCommute.
-/
import Derived.Test.Qxb6615079aLaws2
namespace Go.Proofs.Qxb6615079a
open Go.RowKit
set_option maxRecDepth 100000

theorem rd_eq {w : World} {v : Value} {xs ys : List Int} (h : xs = ys) (hr : RdU w v xs) : RdU w v ys := h ▸ hr

set_option maxHeartbeats 8000000 in
theorem adds_walk (v0 vd : Value) (css : List (List Int)) (ds : List Int) (gi hi dg dh : Int) (w : World) (h0 : RdUU w v0 css) (hd : RdU w vd ds) (hnn : ∀ x ∈ ds, 0 ≤ x) :
    Calls Try.prog 8 #[v0, .int .i64 gi, .int .i64 hi, vd, .int .i64 dg, .int .i64 dh] w fun e w' => e = .returned (.bool true) ∧ Below w.heap.size w w' := by
  have H0 := hid h0
  have HD := hid hd
  have HNN := hid hnn
  clear hnn
  obtain ⟨a0, c0, rfl, -, hm0, -⟩ := h0
  obtain ⟨ad, cd, rfl, -, hmd, -⟩ := hd
  unfold maxLen at hm0 hmd
  go_enter Try.func8, Try.ntmps8
  go_wp2_with fail
  refine (zz34 _ css gi hi dg dh _ ds w H0.out HD.out).mono ?_
  rintro e w' ⟨⟨b, rfl⟩, hw⟩
  subst w'
  cases b
  · go_wp2
    go_ret
    exact ⟨rfl, Below.refl _ _⟩
  go_wp2_with fail
  refine (nb12 _ css _ H0.out).mono ?_
  rintro e w' ⟨⟨r, rfl, hr1, hr2⟩, hw⟩
  subst w'
  have HR := hid hr2
  clear hr2
  rcases Nat.lt_or_ge 1048576 r with hr | hr
  · have hr' : (1048576 : Int) < (r : Int) := by omega
    go_wp2
    go_ret
    exact ⟨rfl, Below.refl _ _⟩
  obtain ⟨hcl, hci⟩ := HR.out hr
  have HCI := hid hci
  clear hci
  have hr' : (r : Int) ≤ 1048576 := by omega
  by_cases ht6 : gi = hi
  · subst ht6
    go_wp2_with fail
    all_goals (go_ret; exact ⟨rfl, Below.refl _ _⟩)
  have hgh0 : (gi == hi) = false := by simpa using ht6
  by_cases ht : ds.length ≤ (1048576 - r) / 8 ∧ 0 ≤ gi ∧ gi < css.length ∧ 0 ≤ hi ∧ hi < css.length
  · obtain ⟨ht1, ht2, ht3, ht4, ht5⟩ := ht
    have ht1' : (ds.length : Int) ≤ (1048576 - (r : Int)) / 8 := by omega
    obtain ⟨g, rfl⟩ : ∃ g : Nat, gi = (g : Int) := ⟨gi.toNat, by omega⟩
    obtain ⟨h, rfl⟩ : ∃ h : Nat, hi = (h : Int) := ⟨hi.toNat, by omega⟩
    have hne : g ≠ h := by omega
    have HNE := hid hne
    clear ht6 hne
    have hgl : g < css.length := by omega
    have hhl : h < css.length := by omega
    obtain ⟨xg, hxg⟩ : ∃ xs, css[g]? = some xs := ⟨css[g], by simp⟩
    obtain ⟨xh, hxh⟩ : ∃ xs, css[h]? = some xs := ⟨css[h], by simp⟩
    have HXG := hid hxg
    have HXH := hid hxh
    have hxgl : xg.length ≤ 1000000 := by have := HCI.out xg (List.mem_of_getElem? hxg); omega
    have hxhl : xh.length ≤ 1000000 := by have := HCI.out xh (List.mem_of_getElem? hxh); omega
    clear hxg hxh
    have hbi : ∀ c ∈ css, c.length ≤ 1000000000 := fun c hc => by have := HCI.out c hc; omega
    have HBI := hid hbi
    have hdl : ds.length ≤ 1000000 := by omega
    clear hbi
    go_wp2_with fail
    refine (cloneUU_c _ css w (fun _ => (0, 0)) 1 (by omega) HBI.out H0.out).mono ?_
    rintro e w1 ⟨v1, ow1, rfl, hU, hE⟩
    have A1 := hid hU
    have E1 := hid hE
    clear hU hE
    go_wp2_with fail
    refine (cloneU_e _ ds w1 ow1 (2, 0) (by omega) (HD.out.evo E1.out (fun _ h => h))).mono ?_
    rintro e w2 ⟨v2, ow2, rfl, hR, hE⟩
    have A2 := hid (A1.out.evo hE (fun _ h => h))
    have B2 := hid hR
    have E2 := hid (E1.out.trans hE)
    clear hR hE A1 E1
    go_wp2_with fail
    refine (cloneUU_c _ css w2 ow2 11 (by omega) HBI.out A2.out.rd).mono ?_
    rintro e w3 ⟨v3, ow3, rfl, hU, hE⟩
    have A3 := hid (A2.out.evo hE (fun _ h => h))
    have B3 := hid (B2.out.evo hE (fun h => h))
    have C3 := hid hU
    have E3 := hid (E2.out.trans hE)
    clear hU hE A2 B2 E2
    go_wp2_with fail
    refine (cloneU_e _ ds w3 ow3 (12, 0) (by omega) B3.out.rd).mono ?_
    rintro e w4 ⟨v4, ow4, rfl, hR, hE⟩
    have A4 := hid (A3.out.evo hE (fun _ h => h))
    have B4 := hid (B3.out.evo hE (fun h => h))
    have C4 := hid (C3.out.evo hE (fun _ h => h))
    have F4 := hid hR
    have E4 := hid (E3.out.trans hE)
    clear hR hE A3 B3 C3 E3
    go_wp2_with fail
    refine (cloneUU_c _ css w4 ow4 3 (by omega) HBI.out A4.out.rd).mono ?_
    rintro e w5 ⟨v5, ow5, rfl, hU, hE⟩
    have A5 := hid (A4.out.evo hE (fun _ h => h))
    have B5 := hid (B4.out.evo hE (fun h => h))
    have C5 := hid (C4.out.evo hE (fun _ h => h))
    have F5 := hid (F4.out.evo hE (fun h => h))
    have K5 := hid hU
    have E5 := hid (E4.out.trans hE)
    clear hU hE A4 B4 C4 F4 E4
    go_wp2_with fail
    refine (cloneU_e _ ds w5 ow5 (4, 0) (by omega) B5.out.rd).mono ?_
    rintro e w6 ⟨v6, ow6, rfl, hR, hE⟩
    have A6 := hid (A5.out.evo hE (fun _ h => h))
    have B6 := hid (B5.out.evo hE (fun h => h))
    have C6 := hid (C5.out.evo hE (fun _ h => h))
    have F6 := hid (F5.out.evo hE (fun h => h))
    have K6 := hid (K5.out.evo hE (fun _ h => h))
    have D6 := hid hR
    have E6 := hid (E5.out.trans hE)
    clear hR hE A5 B5 C5 F5 K5 E5
    go_wp2_with fail
    refine (newModel_c _ css w6 ow6 1 (by omega) A6.out).mono ?_
    rintro e w7 ⟨mb1, ow7, rfl, hM, hE⟩
    have M7 := hid hM
    have B7 := hid (B6.out.evo hE (fun h => h))
    have C7 := hid (C6.out.evo hE (fun _ h => h))
    have F7 := hid (F6.out.evo hE (fun h => h))
    have K7 := hid (K6.out.evo hE (fun _ h => h))
    have D7 := hid (D6.out.evo hE (fun h => h))
    have E7 := hid (E6.out.trans hE)
    clear hM hE A6 B6 C6 F6 K6 D6 E6
    go_wp2_with fail
    refine (newWg_c _ ds w7 ow7 2 B7.out).mono ?_
    rintro e w8 ⟨wb1, ow8, rfl, hW, hE⟩
    have W8 := hid hW
    have M8 := hid (M7.out.evo hE (fun _ h => h))
    have C8 := hid (C7.out.evo hE (fun _ h => h))
    have F8 := hid (F7.out.evo hE (fun h => h))
    have K8 := hid (K7.out.evo hE (fun _ h => h))
    have D8 := hid (D7.out.evo hE (fun h => h))
    have E8 := hid (E7.out.trans hE).myNone
    clear hW hE M7 B7 C7 F7 K7 D7 E7
    have p1 : (css.set g (tickL xg g 1)).length ≤ 1000000 := by simp; omega
    have p2 : (css.set g (tickL xg g 1))[h]? = some xh := by rw [List.getElem?_set_ne HNE.out]; exact HXH.out
    have p3 : (css.set h (tickL xh h 1)).length ≤ 1000000 := by simp; omega
    have p4 : (css.set h (tickL xh h 1))[g]? = some xg := by rw [List.getElem?_set_ne (Ne.symm HNE.out)]; exact HXG.out
    have p5 : (addD dg ds xg).length ≤ 1000000000 := by have := addD_length dg ds xg; omega
    have p6 : (addD dh ds xh).length ≤ 1000000000 := by have := addD_length dh ds xh; omega
    have p7 : (css.set h (tickL xh h 1)).set g (tickL xg g 1) = (css.set g (tickL xg g 1)).set h (tickL xh h 1) := List.set_comm _ _ (Ne.symm HNE.out)
    have p8 : addD dh (addD dg ds xg) xh = joinW dh (joinW dg ds xg) xh := by rw [addD_eq dg ds xg HNN.out, addD_eq _ _ _ (joinW_nonneg HNN.out)]
    have p9 : addD dg (addD dh ds xh) xg = joinW dh (joinW dg ds xg) xh := by rw [addD_eq dh ds xh HNN.out, addD_eq _ _ _ (joinW_nonneg HNN.out), joinW_comm]
    have P1 := hid p1
    have P2 := hid p2
    have P3 := hid p3
    have P4 := hid p4
    have P5 := hid p5
    have P6 := hid p6
    have P7 := hid p7
    have P8 := hid p8
    have P9 := hid p9
    clear p1 p2 p3 p4 p5 p6 p7 p8 p9
    go_wp2_with fail
    refine (add_any mb1 1 g wb1 2 dg css xg ds w8 ow8 (by decide) (by omega) HXG.out (by omega) (by omega) M8.out W8.out).mono ?_
    rintro e w9 ⟨ow9, rfl, hM, hW, hE⟩
    have M9 := hid hM
    have W9 := hid hW
    have C9 := hid (C8.out.evo hE (fun _ => by simp [DuoTag]))
    have F9 := hid (F8.out.evo hE (by simp [DuoTag]))
    have K9 := hid (K8.out.evo hE (fun _ => by simp [DuoTag]))
    have D9 := hid (D8.out.evo hE (by simp [DuoTag]))
    have E9 := hid (E8.out.trans (hE.myDuo (by decide) (by decide)))
    clear hM hW hE M8 W8 C8 F8 K8 D8 E8
    go_wp2_with fail
    refine (add_any mb1 1 h wb1 2 dh _ xh _ w9 ow9 (by decide) P1.out P2.out (by omega) P5.out M9.out W9.out).mono ?_
    rintro e w10 ⟨ow10, rfl, hM, hW, hE⟩
    rw [P8.out] at hW
    have M10 := hid hM
    have W10 := hid hW
    have C10 := hid (C9.out.evo hE (fun _ => by simp [DuoTag]))
    have F10 := hid (F9.out.evo hE (by simp [DuoTag]))
    have K10 := hid (K9.out.evo hE (fun _ => by simp [DuoTag]))
    have D10 := hid (D9.out.evo hE (by simp [DuoTag]))
    have E10 := hid (E9.out.trans (hE.myDuo (by decide) (by decide)))
    clear hM hW hE M9 W9 C9 F9 K9 D9 E9
    go_wp2_with fail
    refine (newModel_c _ css w10 ow10 11 (by omega) C10.out).mono ?_
    rintro e w11 ⟨mb2, ow11, rfl, hM, hE⟩
    have N11 := hid hM
    have M11 := hid (M10.out.evo hE (fun _ h => h))
    have W11 := hid (W10.out.evo hE (fun _ h => h))
    have F11 := hid (F10.out.evo hE (fun h => h))
    have K11 := hid (K10.out.evo hE (fun _ h => h))
    have D11 := hid (D10.out.evo hE (fun h => h))
    have E11 := hid (E10.out.trans hE.myNone)
    clear hM hE M10 W10 C10 F10 K10 D10 E10
    go_wp2_with fail
    refine (newWg_c _ ds w11 ow11 12 F11.out).mono ?_
    rintro e w12 ⟨wb2, ow12, rfl, hW, hE⟩
    have X12 := hid hW
    have N12 := hid (N11.out.evo hE (fun _ h => h))
    have M12 := hid (M11.out.evo hE (fun _ h => h))
    have W12 := hid (W11.out.evo hE (fun _ h => h))
    have K12 := hid (K11.out.evo hE (fun _ h => h))
    have D12 := hid (D11.out.evo hE (fun h => h))
    have E12 := hid (E11.out.trans hE.myNone)
    clear hW hE N11 M11 W11 F11 K11 D11 E11
    go_wp2_with fail
    refine (add_any mb2 11 h wb2 12 dh css xh ds w12 ow12 (by decide) (by omega) HXH.out (by omega) (by omega) N12.out X12.out).mono ?_
    rintro e w13 ⟨ow13, rfl, hM, hW, hE⟩
    have N13 := hid hM
    have X13 := hid hW
    have M13 := hid (M12.out.evo hE (fun _ => by simp [DuoTag]))
    have W13 := hid (W12.out.evo hE (fun _ => by simp [DuoTag]))
    have K13 := hid (K12.out.evo hE (fun _ => by simp [DuoTag]))
    have D13 := hid (D12.out.evo hE (by simp [DuoTag]))
    have E13 := hid (E12.out.trans (hE.myDuo (by decide) (by decide)))
    clear hM hW hE N12 X12 M12 W12 K12 D12 E12
    go_wp2_with fail
    refine (add_any mb2 11 g wb2 12 dg _ xg _ w13 ow13 (by decide) P3.out P4.out (by omega) P6.out N13.out X13.out).mono ?_
    rintro e w14 ⟨ow14, rfl, hM, hW, hE⟩
    rw [P9.out] at hW
    rw [P7.out] at hM
    have N14 := hid hM
    have X14 := hid hW
    have M14 := hid (M13.out.evo hE (fun _ => by simp [DuoTag]))
    have W14 := hid (W13.out.evo hE (fun _ => by simp [DuoTag]))
    have K14 := hid (K13.out.evo hE (fun _ => by simp [DuoTag]))
    have D14 := hid (D13.out.evo hE (by simp [DuoTag]))
    have E14 := hid (E13.out.trans (hE.myDuo (by decide) (by decide)))
    clear hM hW hE N13 X13 M13 W13 K13 D13 E13 P1 P2 P3 P4 P5 P6 P7 P8 P9
    obtain ⟨vsK0, hOK0, hRK0⟩ := K14.out
    have hfmK := hOK0.form
    rw [hRK0.1] at hfmK
    rcases hfmK with ⟨_, hvK0⟩ | ⟨g3, c3, hvK, _, _, _, _⟩
    · have := hRK0.1; rw [hvK0] at this; simp at this; omega
    subst hvK
    obtain ⟨ug, hug, hrug⟩ := hRK0.2 g xg HXG.out
    obtain ⟨ag, cg, rfl⟩ := hrug.shapeU
    obtain ⟨uh, huh, hruh⟩ := hRK0.2 h xh HXH.out
    obtain ⟨ah, ch, rfl⟩ := hruh.shapeU
    have hcg := hOK0.cell hug
    have hch := hOK0.cell huh
    have hgl' : (g : Int) < (css.length : Int) := by omega
    have hhl' : (h : Int) < (css.length : Int) := by omega
    have RG := hid hrug.rd
    have RH := hid hruh.rd
    have T3 := hid (hOK0.2 g3 rfl)
    clear hOK0 hRK0 hug huh hrug hruh
    have hjg : (joinW dg ds xg).length ≤ 1000000 := by unfold joinW; split; rw [joinL_length]; omega; omega
    obtain ⟨a6, c6, hv6⟩ := D14.out.shapeU
    subst hv6
    by_cases hdg : dg < 0
    · by_cases hdh : dh < 0
      · skip
        go_wp2_with fail
        refine (joinU_e _ _ ds xg w14 ow14 (5, 0) (by omega) (by omega) D14.out.rd RG.out).mono ?_
        rintro e w15 ⟨v15, ow15, rfl, hR15, hE15⟩
        have ej : joinL ds xg = joinW dg ds xg := (if_pos hdg).symm
        rw [ej] at hR15
        clear ej
        obtain ⟨a15, c15, rfl⟩ := hR15.shapeU
        have DD := hid hR15
        clear hR15 D14
        have M15 := hid (M14.out.evo hE15 (fun _ h => h))
        have W15 := hid (W14.out.evo hE15 (fun _ h => h))
        have N15 := hid (N14.out.evo hE15 (fun _ h => h))
        have X15 := hid (X14.out.evo hE15 (fun _ h => h))
        have K15 := hid (K14.out.evo hE15 (fun _ h => h))
        have RG15 := hid (RG.out.evo hE15 (fun _ h => h))
        have RH15 := hid (RH.out.evo hE15 (fun _ h => h))
        have hcg15 := hE15.cell hcg (fun h => h)
        have hch15 := hE15.cell hch (fun h => h)
        have E15 := hid (E14.out.trans hE15.myNone)
        clear hE15 M14 W14 N14 X14 K14 E14 RG RH hcg hch
        go_wp2_with fail
        refine (joinU_e _ _ (joinW dg ds xg) xh w15 ow15 (6, 0) (by omega) (by omega) DD.out.rd RH15.out).mono ?_
        rintro e w16 ⟨v16, ow16, rfl, hR16, hE16⟩
        have ek : joinL (joinW dg ds xg) xh = joinW dh (joinW dg ds xg) xh := (if_pos hdh).symm
        rw [ek] at hR16
        clear ek
        obtain ⟨a16, c16, rfl⟩ := hR16.shapeU
        have DE := hid hR16
        clear hR16 DD
        have M16 := hid (M15.out.evo hE16 (fun _ h => h))
        have W16 := hid (W15.out.evo hE16 (fun _ h => h))
        have N16 := hid (N15.out.evo hE16 (fun _ h => h))
        have X16 := hid (X15.out.evo hE16 (fun _ h => h))
        have K16 := hid (K15.out.evo hE16 (fun _ h => h))
        have RG16 := hid (RG15.out.evo hE16 (fun _ h => h))
        have RH16 := hid (RH15.out.evo hE16 (fun _ h => h))
        have hcg16 := hE16.cell hcg15 (fun h => h)
        have hch16 := hE16.cell hch15 (fun h => h)
        have E16 := hid (E15.out.trans hE16.myNone)
        clear hE16 M15 W15 N15 X15 K15 E15 RG15 RH15 hcg15 hch15
        go_wp2_with fail
        refine (cloneUU_c _ css w16 ow16 15 (by omega) HBI.out K16.out.rd).mono ?_
        rintro e wA ⟨vA, owA, rfl, hUA, hEA⟩
        obtain ⟨vsA, hOA, hRA⟩ := hUA
        obtain ⟨uA, huA, hruA⟩ := hRA.2 g xg HXG.out
        obtain ⟨uB, huB, hruB⟩ := hRA.2 h xh HXH.out
        have hfmA := hOA.form
        rw [hRA.1] at hfmA
        rcases hfmA with ⟨_, hvA0⟩ | ⟨gA, cA, hvA, _, _, _, _⟩
        · have := hRA.1; rw [hvA0] at this; simp at this; omega
        subst hvA
        have OA := hid hOA
        have RA := hid hRA.toT
        have HUA := hid huA
        have HUB := hid huB
        clear hOA hRA huA huB hruA hruB
        have MA := hid (M16.out.evo hEA (fun _ h => h))
        have WA := hid (W16.out.evo hEA (fun _ h => h))
        have NA := hid (N16.out.evo hEA (fun _ h => h))
        have XA := hid (X16.out.evo hEA (fun _ h => h))
        have KA := hid (K16.out.evo hEA (fun _ h => h))
        have RGA := hid (RG16.out.evo hEA (fun _ h => h))
        have RHA := hid (RH16.out.evo hEA (fun _ h => h))
        have hcgA := hEA.cell hcg16 (fun h => h)
        have hchA := hEA.cell hch16 (fun h => h)
        have EA := hid (E16.out.trans hEA.myNone)
        have DA := hid (DE.out.evo hEA (fun h => h))
        clear hEA M16 W16 N16 X16 K16 E16 RG16 RH16 hcg16 hch16 DE
        go_wp2_with fail
        refine (tickU_e _ xg g 1 wA owA (16, 0) (by omega) (by omega) RGA.out).mono ?_
        rintro e wB ⟨vB, owB, rfl, hRB, hEB⟩
        obtain ⟨aB, cB, rfl⟩ := hRB.shapeU
        have hOB := OA.out.evo hEB (fun h => h)
        have hRAB := RA.out.evo hEB (fun _ h => h)
        have hcB := hOB.cell HUA.out
        have hfB := hOB.frozen g
        obtain ⟨hOC, hEC⟩ := hOB.set g (.slice aB (tickL xg g 1).length cB)
        have RC := hid ((hRAB.evo hEC (fun i => by simp [OneTag])).set (g := g) (hRB.evo hEC (by simp [OneTag])))
        have OC := hid hOC
        have hEBC := (Evo.none (T := OneTag (15, 0)) hEB).trans hEC
        have MC := hid (MA.out.evo hEBC (fun _ => by simp [OneTag]))
        have WC := hid (WA.out.evo hEBC (fun _ => by simp [OneTag]))
        have NC := hid (NA.out.evo hEBC (fun _ => by simp [OneTag]))
        have XC := hid (XA.out.evo hEBC (fun _ => by simp [OneTag]))
        obtain ⟨vsKC, hOKC, hRKC⟩ := KA.out.evo hEBC (fun _ => by simp [OneTag])
        obtain ⟨uKh, huKh, hruKh⟩ := hRKC.2 h xh HXH.out
        obtain ⟨aKh, cKh, rfl⟩ := hruKh.shapeU
        have hchC := hOKC.cell huKh
        have RHC := hid hruKh.rd
        have DC := hid (DA.out.evo hEBC (by simp [OneTag]))
        have EC := hid (EA.out.trans (hEBC.myOne (by decide)))
        have hcC2 : ∃ u, (wB.setCell ⟨gA, g, none⟩ (.slice aB (tickL xg g 1).length cB)).cell? ⟨gA, h, none⟩ = some u := ⟨_, hOC.cell (by rw [List.getElem?_set_ne HNE.out]; exact HUB.out)⟩
        obtain ⟨uC2, hcC2⟩ := hcC2
        have hfC2 := hOC.frozen h
        clear hRB hEB hOB hRAB hOC hEC hEBC hOKC hRKC huKh hruKh OA RA MA WA NA XA KA DA EA RGA RHA
        go_wp2_with fail
        refine (tickU_e _ xh h 1 _ owB (17, 0) (by omega) (by omega) RHC.out).mono ?_
        rintro e wD ⟨vD, owD, rfl, hRD, hED⟩
        obtain ⟨aD, cD, rfl⟩ := hRD.shapeU
        have hOD := OC.out.evo hED (fun h => h)
        have hRCD := RC.out.evo hED (fun _ h => h)
        have hcD := hED.cell hcC2 (fun h => h)
        have hfD := (hED.frozen hcC2 (fun h => h)).trans hfC2
        obtain ⟨hOE, hEE⟩ := hOD.set h (.slice aD (tickL xh h 1).length cD)
        have RE := (hRCD.evo hEE (fun i => by simp only [OneTag]; split <;> simp)).set (g := h) (hRD.evo hEE (by simp [OneTag]))
        have hEDE := (Evo.none (T := OneTag (15, 0)) hED).trans hEE
        have RD := hid (RE.rd (by unfold maxLen; simp; omega) hOE)
        have ME := hid (MC.out.evo hEDE (fun _ => by simp [OneTag]))
        have NE := hid (NC.out.evo hEDE (fun _ => by simp [OneTag]))
        have hWg1 := WC.out.evo hEDE (fun _ => by simp [OneTag])
        have hWg2 := XC.out.evo hEDE (fun _ => by simp [OneTag])
        have hDrd := (DC.out.evo hEDE (by simp [OneTag])).rd
        have DF := hid hDrd
        have EE := hid (EC.out.trans (hEDE.myOne (by decide)))
        obtain ⟨vw1, hbw1, hrw1⟩ := hWg1
        obtain ⟨aw1, cw1, rfl⟩ := hrw1.shapeU
        obtain ⟨vw2, hbw2, hrw2⟩ := hWg2
        obtain ⟨aw2, cw2, rfl⟩ := hrw2.shapeU
        have hcw1 := hbw1.cell
        have hcw2 := hbw2.cell
        have RW1 := hid hrw1.rd
        have RW2 := hid hrw2.rd
        clear hRD hED hOD hRCD hOE hEE RE hEDE hbw1 hrw1 hbw2 hrw2 OC RC MC NC WC XC DC EC hDrd
        go_wp2_with (first | (go_at_call 26; go_in) | fail)
        refine (sameU_c _ _ _ _ RW1.out DF.out).mono ?_
        rintro e w21 ⟨rfl, n21, hw21⟩
        subst w21
        go_wp2_with (first | (go_at_call 26; go_in) | fail)
        refine (sameU_d _ _ _ _ _ RW2.out DF.out).mono ?_
        rintro e w22 ⟨rfl, n22, hw22⟩
        subst w22
        go_wp2_with fail
        refine (sameState_d mb1 1 _ _ _ _ owD (by simp; omega) ME.out RD.out).mono ?_
        rintro e w23 ⟨rfl, n23, hw23⟩
        subst w23
        go_wp2_with fail
        refine (sameState_d mb2 11 _ _ _ _ owD (by simp; omega) NE.out RD.out).mono ?_
        rintro e w24 ⟨rfl, n24, hw24⟩
        subst w24
        go_wp2
        go_ret
        exact ⟨rfl, (EE.out.drewN _).mine (by simp [MyTag])⟩
      · skip
        go_wp2_with fail
        refine (joinU_e _ _ ds xg w14 ow14 (5, 0) (by omega) (by omega) D14.out.rd RG.out).mono ?_
        rintro e w15 ⟨v15, ow15, rfl, hR15, hE15⟩
        have ej : joinL ds xg = joinW dg ds xg := (if_pos hdg).symm
        rw [ej] at hR15
        clear ej
        obtain ⟨a15, c15, rfl⟩ := hR15.shapeU
        have DD := hid hR15
        clear hR15 D14
        have M15 := hid (M14.out.evo hE15 (fun _ h => h))
        have W15 := hid (W14.out.evo hE15 (fun _ h => h))
        have N15 := hid (N14.out.evo hE15 (fun _ h => h))
        have X15 := hid (X14.out.evo hE15 (fun _ h => h))
        have K15 := hid (K14.out.evo hE15 (fun _ h => h))
        have RG15 := hid (RG.out.evo hE15 (fun _ h => h))
        have RH15 := hid (RH.out.evo hE15 (fun _ h => h))
        have hcg15 := hE15.cell hcg (fun h => h)
        have hch15 := hE15.cell hch (fun h => h)
        have E15 := hid (E14.out.trans hE15.myNone)
        clear hE15 M14 W14 N14 X14 K14 E14 RG RH hcg hch
        have EK : Hid (joinW dg ds xg = joinW dh (joinW dg ds xg) xh) := (if_neg (show ¬ dh < 0 by omega)).symm
        have hDE := DD.out
        have DE0 := DD.out
        clear hDE
        go_wp2_with fail
        refine (cloneUU_c _ css w15 ow15 15 (by omega) HBI.out K15.out.rd).mono ?_
        rintro e wA ⟨vA, owA, rfl, hUA, hEA⟩
        obtain ⟨vsA, hOA, hRA⟩ := hUA
        obtain ⟨uA, huA, hruA⟩ := hRA.2 g xg HXG.out
        obtain ⟨uB, huB, hruB⟩ := hRA.2 h xh HXH.out
        have hfmA := hOA.form
        rw [hRA.1] at hfmA
        rcases hfmA with ⟨_, hvA0⟩ | ⟨gA, cA, hvA, _, _, _, _⟩
        · have := hRA.1; rw [hvA0] at this; simp at this; omega
        subst hvA
        have OA := hid hOA
        have RA := hid hRA.toT
        have HUA := hid huA
        have HUB := hid huB
        clear hOA hRA huA huB hruA hruB
        clear DE0
        have MA := hid (M15.out.evo hEA (fun _ h => h))
        have WA := hid (W15.out.evo hEA (fun _ h => h))
        have NA := hid (N15.out.evo hEA (fun _ h => h))
        have XA := hid (X15.out.evo hEA (fun _ h => h))
        have KA := hid (K15.out.evo hEA (fun _ h => h))
        have RGA := hid (RG15.out.evo hEA (fun _ h => h))
        have RHA := hid (RH15.out.evo hEA (fun _ h => h))
        have hcgA := hEA.cell hcg15 (fun h => h)
        have hchA := hEA.cell hch15 (fun h => h)
        have EA := hid (E15.out.trans hEA.myNone)
        have DA := hid (DD.out.evo hEA (fun h => h))
        clear hEA M15 W15 N15 X15 K15 E15 RG15 RH15 hcg15 hch15 DD
        go_wp2_with fail
        refine (tickU_e _ xg g 1 wA owA (16, 0) (by omega) (by omega) RGA.out).mono ?_
        rintro e wB ⟨vB, owB, rfl, hRB, hEB⟩
        obtain ⟨aB, cB, rfl⟩ := hRB.shapeU
        have hOB := OA.out.evo hEB (fun h => h)
        have hRAB := RA.out.evo hEB (fun _ h => h)
        have hcB := hOB.cell HUA.out
        have hfB := hOB.frozen g
        obtain ⟨hOC, hEC⟩ := hOB.set g (.slice aB (tickL xg g 1).length cB)
        have RC := hid ((hRAB.evo hEC (fun i => by simp [OneTag])).set (g := g) (hRB.evo hEC (by simp [OneTag])))
        have OC := hid hOC
        have hEBC := (Evo.none (T := OneTag (15, 0)) hEB).trans hEC
        have MC := hid (MA.out.evo hEBC (fun _ => by simp [OneTag]))
        have WC := hid (WA.out.evo hEBC (fun _ => by simp [OneTag]))
        have NC := hid (NA.out.evo hEBC (fun _ => by simp [OneTag]))
        have XC := hid (XA.out.evo hEBC (fun _ => by simp [OneTag]))
        obtain ⟨vsKC, hOKC, hRKC⟩ := KA.out.evo hEBC (fun _ => by simp [OneTag])
        obtain ⟨uKh, huKh, hruKh⟩ := hRKC.2 h xh HXH.out
        obtain ⟨aKh, cKh, rfl⟩ := hruKh.shapeU
        have hchC := hOKC.cell huKh
        have RHC := hid hruKh.rd
        have DC := hid (DA.out.evo hEBC (by simp [OneTag]))
        have EC := hid (EA.out.trans (hEBC.myOne (by decide)))
        have hcC2 : ∃ u, (wB.setCell ⟨gA, g, none⟩ (.slice aB (tickL xg g 1).length cB)).cell? ⟨gA, h, none⟩ = some u := ⟨_, hOC.cell (by rw [List.getElem?_set_ne HNE.out]; exact HUB.out)⟩
        obtain ⟨uC2, hcC2⟩ := hcC2
        have hfC2 := hOC.frozen h
        clear hRB hEB hOB hRAB hOC hEC hEBC hOKC hRKC huKh hruKh OA RA MA WA NA XA KA DA EA RGA RHA
        go_wp2_with fail
        refine (tickU_e _ xh h 1 _ owB (17, 0) (by omega) (by omega) RHC.out).mono ?_
        rintro e wD ⟨vD, owD, rfl, hRD, hED⟩
        obtain ⟨aD, cD, rfl⟩ := hRD.shapeU
        have hOD := OC.out.evo hED (fun h => h)
        have hRCD := RC.out.evo hED (fun _ h => h)
        have hcD := hED.cell hcC2 (fun h => h)
        have hfD := (hED.frozen hcC2 (fun h => h)).trans hfC2
        obtain ⟨hOE, hEE⟩ := hOD.set h (.slice aD (tickL xh h 1).length cD)
        have RE := (hRCD.evo hEE (fun i => by simp only [OneTag]; split <;> simp)).set (g := h) (hRD.evo hEE (by simp [OneTag]))
        have hEDE := (Evo.none (T := OneTag (15, 0)) hED).trans hEE
        have RD := hid (RE.rd (by unfold maxLen; simp; omega) hOE)
        have ME := hid (MC.out.evo hEDE (fun _ => by simp [OneTag]))
        have NE := hid (NC.out.evo hEDE (fun _ => by simp [OneTag]))
        have hWg1 := WC.out.evo hEDE (fun _ => by simp [OneTag])
        have hWg2 := XC.out.evo hEDE (fun _ => by simp [OneTag])
        have hDrd := (DC.out.evo hEDE (by simp [OneTag])).rd
        have DF := hid (rd_eq EK.out hDrd)
        have EE := hid (EC.out.trans (hEDE.myOne (by decide)))
        obtain ⟨vw1, hbw1, hrw1⟩ := hWg1
        obtain ⟨aw1, cw1, rfl⟩ := hrw1.shapeU
        obtain ⟨vw2, hbw2, hrw2⟩ := hWg2
        obtain ⟨aw2, cw2, rfl⟩ := hrw2.shapeU
        have hcw1 := hbw1.cell
        have hcw2 := hbw2.cell
        have RW1 := hid hrw1.rd
        have RW2 := hid hrw2.rd
        clear hRD hED hOD hRCD hOE hEE RE hEDE hbw1 hrw1 hbw2 hrw2 OC RC MC NC WC XC DC EC hDrd
        go_wp2_with (first | (go_at_call 26; go_in) | fail)
        refine (sameU_c _ _ _ _ RW1.out DF.out).mono ?_
        rintro e w21 ⟨rfl, n21, hw21⟩
        subst w21
        go_wp2_with (first | (go_at_call 26; go_in) | fail)
        refine (sameU_d _ _ _ _ _ RW2.out DF.out).mono ?_
        rintro e w22 ⟨rfl, n22, hw22⟩
        subst w22
        go_wp2_with fail
        refine (sameState_d mb1 1 _ _ _ _ owD (by simp; omega) ME.out RD.out).mono ?_
        rintro e w23 ⟨rfl, n23, hw23⟩
        subst w23
        go_wp2_with fail
        refine (sameState_d mb2 11 _ _ _ _ owD (by simp; omega) NE.out RD.out).mono ?_
        rintro e w24 ⟨rfl, n24, hw24⟩
        subst w24
        go_wp2
        go_ret
        exact ⟨rfl, (EE.out.drewN _).mine (by simp [MyTag])⟩
    · by_cases hdh : dh < 0
      · skip
        have EJ : Hid (ds = joinW dg ds xg) := (if_neg hdg).symm
        have hDD := D14.out
        go_wp2_with fail
        refine (joinU_e _ _ ds xh w14 ow14 (6, 0) (by omega) (by omega) D14.out.rd RH.out).mono ?_
        rintro e w16 ⟨v16, ow16, rfl, hR16, hE16⟩
        have ek : joinL ds xh = joinW dh (joinW dg ds xg) xh := by rw [← EJ.out]; exact (if_pos hdh).symm
        rw [ek] at hR16
        clear ek
        obtain ⟨a16, c16, rfl⟩ := hR16.shapeU
        have DE := hid hR16
        clear hR16 D14
        have M16 := hid (M14.out.evo hE16 (fun _ h => h))
        have W16 := hid (W14.out.evo hE16 (fun _ h => h))
        have N16 := hid (N14.out.evo hE16 (fun _ h => h))
        have X16 := hid (X14.out.evo hE16 (fun _ h => h))
        have K16 := hid (K14.out.evo hE16 (fun _ h => h))
        have RG16 := hid (RG.out.evo hE16 (fun _ h => h))
        have RH16 := hid (RH.out.evo hE16 (fun _ h => h))
        have hcg16 := hE16.cell hcg (fun h => h)
        have hch16 := hE16.cell hch (fun h => h)
        have E16 := hid (E14.out.trans hE16.myNone)
        clear hE16 M14 W14 N14 X14 K14 E14 RG RH hcg hch
        clear hDD
        go_wp2_with fail
        refine (cloneUU_c _ css w16 ow16 15 (by omega) HBI.out K16.out.rd).mono ?_
        rintro e wA ⟨vA, owA, rfl, hUA, hEA⟩
        obtain ⟨vsA, hOA, hRA⟩ := hUA
        obtain ⟨uA, huA, hruA⟩ := hRA.2 g xg HXG.out
        obtain ⟨uB, huB, hruB⟩ := hRA.2 h xh HXH.out
        have hfmA := hOA.form
        rw [hRA.1] at hfmA
        rcases hfmA with ⟨_, hvA0⟩ | ⟨gA, cA, hvA, _, _, _, _⟩
        · have := hRA.1; rw [hvA0] at this; simp at this; omega
        subst hvA
        have OA := hid hOA
        have RA := hid hRA.toT
        have HUA := hid huA
        have HUB := hid huB
        clear hOA hRA huA huB hruA hruB
        have MA := hid (M16.out.evo hEA (fun _ h => h))
        have WA := hid (W16.out.evo hEA (fun _ h => h))
        have NA := hid (N16.out.evo hEA (fun _ h => h))
        have XA := hid (X16.out.evo hEA (fun _ h => h))
        have KA := hid (K16.out.evo hEA (fun _ h => h))
        have RGA := hid (RG16.out.evo hEA (fun _ h => h))
        have RHA := hid (RH16.out.evo hEA (fun _ h => h))
        have hcgA := hEA.cell hcg16 (fun h => h)
        have hchA := hEA.cell hch16 (fun h => h)
        have EA := hid (E16.out.trans hEA.myNone)
        have DA := hid (DE.out.evo hEA (fun h => h))
        clear hEA M16 W16 N16 X16 K16 E16 RG16 RH16 hcg16 hch16 DE
        go_wp2_with fail
        refine (tickU_e _ xg g 1 wA owA (16, 0) (by omega) (by omega) RGA.out).mono ?_
        rintro e wB ⟨vB, owB, rfl, hRB, hEB⟩
        obtain ⟨aB, cB, rfl⟩ := hRB.shapeU
        have hOB := OA.out.evo hEB (fun h => h)
        have hRAB := RA.out.evo hEB (fun _ h => h)
        have hcB := hOB.cell HUA.out
        have hfB := hOB.frozen g
        obtain ⟨hOC, hEC⟩ := hOB.set g (.slice aB (tickL xg g 1).length cB)
        have RC := hid ((hRAB.evo hEC (fun i => by simp [OneTag])).set (g := g) (hRB.evo hEC (by simp [OneTag])))
        have OC := hid hOC
        have hEBC := (Evo.none (T := OneTag (15, 0)) hEB).trans hEC
        have MC := hid (MA.out.evo hEBC (fun _ => by simp [OneTag]))
        have WC := hid (WA.out.evo hEBC (fun _ => by simp [OneTag]))
        have NC := hid (NA.out.evo hEBC (fun _ => by simp [OneTag]))
        have XC := hid (XA.out.evo hEBC (fun _ => by simp [OneTag]))
        obtain ⟨vsKC, hOKC, hRKC⟩ := KA.out.evo hEBC (fun _ => by simp [OneTag])
        obtain ⟨uKh, huKh, hruKh⟩ := hRKC.2 h xh HXH.out
        obtain ⟨aKh, cKh, rfl⟩ := hruKh.shapeU
        have hchC := hOKC.cell huKh
        have RHC := hid hruKh.rd
        have DC := hid (DA.out.evo hEBC (by simp [OneTag]))
        have EC := hid (EA.out.trans (hEBC.myOne (by decide)))
        have hcC2 : ∃ u, (wB.setCell ⟨gA, g, none⟩ (.slice aB (tickL xg g 1).length cB)).cell? ⟨gA, h, none⟩ = some u := ⟨_, hOC.cell (by rw [List.getElem?_set_ne HNE.out]; exact HUB.out)⟩
        obtain ⟨uC2, hcC2⟩ := hcC2
        have hfC2 := hOC.frozen h
        clear hRB hEB hOB hRAB hOC hEC hEBC hOKC hRKC huKh hruKh OA RA MA WA NA XA KA DA EA RGA RHA
        go_wp2_with fail
        refine (tickU_e _ xh h 1 _ owB (17, 0) (by omega) (by omega) RHC.out).mono ?_
        rintro e wD ⟨vD, owD, rfl, hRD, hED⟩
        obtain ⟨aD, cD, rfl⟩ := hRD.shapeU
        have hOD := OC.out.evo hED (fun h => h)
        have hRCD := RC.out.evo hED (fun _ h => h)
        have hcD := hED.cell hcC2 (fun h => h)
        have hfD := (hED.frozen hcC2 (fun h => h)).trans hfC2
        obtain ⟨hOE, hEE⟩ := hOD.set h (.slice aD (tickL xh h 1).length cD)
        have RE := (hRCD.evo hEE (fun i => by simp only [OneTag]; split <;> simp)).set (g := h) (hRD.evo hEE (by simp [OneTag]))
        have hEDE := (Evo.none (T := OneTag (15, 0)) hED).trans hEE
        have RD := hid (RE.rd (by unfold maxLen; simp; omega) hOE)
        have ME := hid (MC.out.evo hEDE (fun _ => by simp [OneTag]))
        have NE := hid (NC.out.evo hEDE (fun _ => by simp [OneTag]))
        have hWg1 := WC.out.evo hEDE (fun _ => by simp [OneTag])
        have hWg2 := XC.out.evo hEDE (fun _ => by simp [OneTag])
        have hDrd := (DC.out.evo hEDE (by simp [OneTag])).rd
        have DF := hid hDrd
        have EE := hid (EC.out.trans (hEDE.myOne (by decide)))
        obtain ⟨vw1, hbw1, hrw1⟩ := hWg1
        obtain ⟨aw1, cw1, rfl⟩ := hrw1.shapeU
        obtain ⟨vw2, hbw2, hrw2⟩ := hWg2
        obtain ⟨aw2, cw2, rfl⟩ := hrw2.shapeU
        have hcw1 := hbw1.cell
        have hcw2 := hbw2.cell
        have RW1 := hid hrw1.rd
        have RW2 := hid hrw2.rd
        clear hRD hED hOD hRCD hOE hEE RE hEDE hbw1 hrw1 hbw2 hrw2 OC RC MC NC WC XC DC EC hDrd
        go_wp2_with (first | (go_at_call 26; go_in) | fail)
        refine (sameU_c _ _ _ _ RW1.out DF.out).mono ?_
        rintro e w21 ⟨rfl, n21, hw21⟩
        subst w21
        go_wp2_with (first | (go_at_call 26; go_in) | fail)
        refine (sameU_d _ _ _ _ _ RW2.out DF.out).mono ?_
        rintro e w22 ⟨rfl, n22, hw22⟩
        subst w22
        go_wp2_with fail
        refine (sameState_d mb1 1 _ _ _ _ owD (by simp; omega) ME.out RD.out).mono ?_
        rintro e w23 ⟨rfl, n23, hw23⟩
        subst w23
        go_wp2_with fail
        refine (sameState_d mb2 11 _ _ _ _ owD (by simp; omega) NE.out RD.out).mono ?_
        rintro e w24 ⟨rfl, n24, hw24⟩
        subst w24
        go_wp2
        go_ret
        exact ⟨rfl, (EE.out.drewN _).mine (by simp [MyTag])⟩
      · skip
        have EJ : Hid (ds = joinW dg ds xg) := (if_neg hdg).symm
        have hDD := D14.out
        have EK : Hid (ds = joinW dh (joinW dg ds xg) xh) := show ds = joinW dh (joinW dg ds xg) xh by rw [← EJ.out]; exact (if_neg (show ¬ dh < 0 by omega)).symm
        have hDE := D14.out
        have DE0 := D14.out
        clear hDE
        clear hDD
        go_wp2_with fail
        refine (cloneUU_c _ css w14 ow14 15 (by omega) HBI.out K14.out.rd).mono ?_
        rintro e wA ⟨vA, owA, rfl, hUA, hEA⟩
        obtain ⟨vsA, hOA, hRA⟩ := hUA
        obtain ⟨uA, huA, hruA⟩ := hRA.2 g xg HXG.out
        obtain ⟨uB, huB, hruB⟩ := hRA.2 h xh HXH.out
        have hfmA := hOA.form
        rw [hRA.1] at hfmA
        rcases hfmA with ⟨_, hvA0⟩ | ⟨gA, cA, hvA, _, _, _, _⟩
        · have := hRA.1; rw [hvA0] at this; simp at this; omega
        subst hvA
        have OA := hid hOA
        have RA := hid hRA.toT
        have HUA := hid huA
        have HUB := hid huB
        clear hOA hRA huA huB hruA hruB
        clear DE0
        have MA := hid (M14.out.evo hEA (fun _ h => h))
        have WA := hid (W14.out.evo hEA (fun _ h => h))
        have NA := hid (N14.out.evo hEA (fun _ h => h))
        have XA := hid (X14.out.evo hEA (fun _ h => h))
        have KA := hid (K14.out.evo hEA (fun _ h => h))
        have RGA := hid (RG.out.evo hEA (fun _ h => h))
        have RHA := hid (RH.out.evo hEA (fun _ h => h))
        have hcgA := hEA.cell hcg (fun h => h)
        have hchA := hEA.cell hch (fun h => h)
        have EA := hid (E14.out.trans hEA.myNone)
        have DA := hid (D14.out.evo hEA (fun h => h))
        clear hEA M14 W14 N14 X14 K14 E14 RG RH hcg hch D14
        go_wp2_with fail
        refine (tickU_e _ xg g 1 wA owA (16, 0) (by omega) (by omega) RGA.out).mono ?_
        rintro e wB ⟨vB, owB, rfl, hRB, hEB⟩
        obtain ⟨aB, cB, rfl⟩ := hRB.shapeU
        have hOB := OA.out.evo hEB (fun h => h)
        have hRAB := RA.out.evo hEB (fun _ h => h)
        have hcB := hOB.cell HUA.out
        have hfB := hOB.frozen g
        obtain ⟨hOC, hEC⟩ := hOB.set g (.slice aB (tickL xg g 1).length cB)
        have RC := hid ((hRAB.evo hEC (fun i => by simp [OneTag])).set (g := g) (hRB.evo hEC (by simp [OneTag])))
        have OC := hid hOC
        have hEBC := (Evo.none (T := OneTag (15, 0)) hEB).trans hEC
        have MC := hid (MA.out.evo hEBC (fun _ => by simp [OneTag]))
        have WC := hid (WA.out.evo hEBC (fun _ => by simp [OneTag]))
        have NC := hid (NA.out.evo hEBC (fun _ => by simp [OneTag]))
        have XC := hid (XA.out.evo hEBC (fun _ => by simp [OneTag]))
        obtain ⟨vsKC, hOKC, hRKC⟩ := KA.out.evo hEBC (fun _ => by simp [OneTag])
        obtain ⟨uKh, huKh, hruKh⟩ := hRKC.2 h xh HXH.out
        obtain ⟨aKh, cKh, rfl⟩ := hruKh.shapeU
        have hchC := hOKC.cell huKh
        have RHC := hid hruKh.rd
        have DC := hid (DA.out.evo hEBC (by simp [OneTag]))
        have EC := hid (EA.out.trans (hEBC.myOne (by decide)))
        have hcC2 : ∃ u, (wB.setCell ⟨gA, g, none⟩ (.slice aB (tickL xg g 1).length cB)).cell? ⟨gA, h, none⟩ = some u := ⟨_, hOC.cell (by rw [List.getElem?_set_ne HNE.out]; exact HUB.out)⟩
        obtain ⟨uC2, hcC2⟩ := hcC2
        have hfC2 := hOC.frozen h
        clear hRB hEB hOB hRAB hOC hEC hEBC hOKC hRKC huKh hruKh OA RA MA WA NA XA KA DA EA RGA RHA
        go_wp2_with fail
        refine (tickU_e _ xh h 1 _ owB (17, 0) (by omega) (by omega) RHC.out).mono ?_
        rintro e wD ⟨vD, owD, rfl, hRD, hED⟩
        obtain ⟨aD, cD, rfl⟩ := hRD.shapeU
        have hOD := OC.out.evo hED (fun h => h)
        have hRCD := RC.out.evo hED (fun _ h => h)
        have hcD := hED.cell hcC2 (fun h => h)
        have hfD := (hED.frozen hcC2 (fun h => h)).trans hfC2
        obtain ⟨hOE, hEE⟩ := hOD.set h (.slice aD (tickL xh h 1).length cD)
        have RE := (hRCD.evo hEE (fun i => by simp only [OneTag]; split <;> simp)).set (g := h) (hRD.evo hEE (by simp [OneTag]))
        have hEDE := (Evo.none (T := OneTag (15, 0)) hED).trans hEE
        have RD := hid (RE.rd (by unfold maxLen; simp; omega) hOE)
        have ME := hid (MC.out.evo hEDE (fun _ => by simp [OneTag]))
        have NE := hid (NC.out.evo hEDE (fun _ => by simp [OneTag]))
        have hWg1 := WC.out.evo hEDE (fun _ => by simp [OneTag])
        have hWg2 := XC.out.evo hEDE (fun _ => by simp [OneTag])
        have hDrd := (DC.out.evo hEDE (by simp [OneTag])).rd
        have DF := hid (rd_eq EK.out hDrd)
        have EE := hid (EC.out.trans (hEDE.myOne (by decide)))
        obtain ⟨vw1, hbw1, hrw1⟩ := hWg1
        obtain ⟨aw1, cw1, rfl⟩ := hrw1.shapeU
        obtain ⟨vw2, hbw2, hrw2⟩ := hWg2
        obtain ⟨aw2, cw2, rfl⟩ := hrw2.shapeU
        have hcw1 := hbw1.cell
        have hcw2 := hbw2.cell
        have RW1 := hid hrw1.rd
        have RW2 := hid hrw2.rd
        clear hRD hED hOD hRCD hOE hEE RE hEDE hbw1 hrw1 hbw2 hrw2 OC RC MC NC WC XC DC EC hDrd
        go_wp2_with (first | (go_at_call 26; go_in) | fail)
        refine (sameU_c _ _ _ _ RW1.out DF.out).mono ?_
        rintro e w21 ⟨rfl, n21, hw21⟩
        subst w21
        go_wp2_with (first | (go_at_call 26; go_in) | fail)
        refine (sameU_d _ _ _ _ _ RW2.out DF.out).mono ?_
        rintro e w22 ⟨rfl, n22, hw22⟩
        subst w22
        go_wp2_with fail
        refine (sameState_d mb1 1 _ _ _ _ owD (by simp; omega) ME.out RD.out).mono ?_
        rintro e w23 ⟨rfl, n23, hw23⟩
        subst w23
        go_wp2_with fail
        refine (sameState_d mb2 11 _ _ _ _ owD (by simp; omega) NE.out RD.out).mono ?_
        rintro e w24 ⟨rfl, n24, hw24⟩
        subst w24
        go_wp2
        go_ret
        exact ⟨rfl, (EE.out.drewN _).mine (by simp [MyTag])⟩
  · go_wp2_with fail
    all_goals (go_ret; exact ⟨rfl, Below.refl _ _⟩)

end Go.Proofs.Qxb6615079a
