/-
  THE WALK of FnDetachedThenDonePassesNothing.
-/
import Derived.Test.Qxb6615079aAdd
import Derived.Test.Qxb6615079aClone
namespace Go.Proofs.Qxb6615079a
open Go.RowKit
set_option maxRecDepth 100000

theorem laid_setN (vs : List Value) (n k : Nat) (z u : Value) (hn : vs.length ≤ n) (h : vs[k]? = some u) : (Laid vs n k z).set k u = Laid vs n (k + 1) z := by
  obtain ⟨hk, hu⟩ := List.getElem?_eq_some_iff.1 h
  have hl : (vs.take k).length = k := by simp; omega
  unfold Laid
  rw [List.set_append_right _ _ (by omega), hl, Nat.sub_self, List.take_succ_eq_append_getElem hk, hu]
  obtain ⟨m, hm⟩ : ∃ m, n - k = m + 1 := ⟨n - k - 1, by omega⟩
  have hm' : n - (k + 1) = m := by omega
  rw [hm, hm', List.replicate_succ]
  simp

theorem laid_rowN {w : World} {ow : Nat → Nat × Nat} {tg : Nat × Nat} {e : TypeId} {g c k n : Nat} {vs : List Value} {z u : Value} (hn : vs.length ≤ n) (h : Row w ow tg e (.slice (some ⟨g, 0, none⟩) n c) (Laid vs n k z)) (hu : vs[k]? = some u) :
    Row (w.setCell ⟨g, k, none⟩ u) ow tg e (.slice (some ⟨g, 0, none⟩) n c) (Laid vs n (k + 1) z) := by
  rw [← laid_setN vs n k z u hn hu]
  exact (h.set k u).1

/-- No old block turns where every old block bears the tag (0, 0). -/
theorem Evo.mine {T : Nat × Nat → Prop} {w w' : World} {ow' : Nat → Nat × Nat} (h : Evo T w (fun _ => (0, 0)) w' ow') (hT : ¬ T (0, 0)) : Below w.heap.size w w' := h.below (Nat.le_refl _) fun _ _ => hT

theorem cloneU_e (v : Value) (xs : List Int) (w : World) (ow : Nat → Nat × Nat) (tg : Nat × Nat) (hm : xs.length ≤ 1000000000) (hr : RdU w v xs) :
    Calls Try.prog 14 #[v] w fun e w' => ∃ v' ow', e = .returned v' ∧ Row w' ow' tg 38 v' (u32s xs) ∧ Evo NoTag w ow w' ow' :=
  (cloneU_c v xs w ow tg hm hr).mono fun _ _ ⟨v', h1, h2, h3⟩ => ⟨v', _, h1, h2, h3⟩
theorem tickU_e (v : Value) (xs : List Int) (g : Nat) (q : Int) (w : World) (ow : Nat → Nat × Nat) (tg : Nat × Nat) (hm : xs.length ≤ 1000000000) (hg : g ≤ 1000000) (hr : RdU w v xs) :
    Calls Try.prog 21 #[v, .int .i64 g, .int .u32 q] w fun e w' => ∃ v' ow', e = .returned v' ∧ Row w' ow' tg 38 v' (u32s (tickL xs g q)) ∧ Evo NoTag w ow w' ow' :=
  (tickU_c v xs g q w ow tg hm hg hr).mono fun _ _ ⟨v', h1, h2, h3⟩ => ⟨v', _, h1, h2, h3⟩
theorem joinU_e (va vb : Value) (xs ys : List Int) (w : World) (ow : Nat → Nat × Nat) (tg : Nat × Nat) (hma : xs.length ≤ 1000000000) (hmb : ys.length ≤ 1000000000) (ha : RdU w va xs) (hb : RdU w vb ys) :
    Calls Try.prog 20 #[va, vb] w fun e w' => ∃ v' ow', e = .returned v' ∧ Row w' ow' tg 38 v' (u32s (joinL xs ys)) ∧ Evo NoTag w ow w' ow' :=
  (joinU_c va vb xs ys w ow tg hma hmb ha hb).mono fun _ _ ⟨v', h1, h2, h3⟩ => ⟨v', _, h1, h2, h3⟩

theorem sameState_d (mb t : Nat) (css : List (List Int)) (vw : Value) (w : World) (n : Nat) (ow : Nat → Nat × Nat) (hm : css.length ≤ 1000000000) (h : Mdl w ow t mb css) (hw : RdUU w vw css) :
    Calls Try.prog 27 #[.pointer (some ⟨mb, 0, none⟩), vw] (w.drewN n) fun e w' => e = .returned (.bool true) ∧ ∃ m, w' = (w.drewN n).drewN m := sameState_c mb t css vw (w.drewN n) ow hm h hw
theorem sameU_d (va vb : Value) (xs : List Int) (w : World) (n : Nat) (ha : RdU w va xs) (hb : RdU w vb xs) :
    Calls Try.prog 22 #[va, vb] (w.drewN n) fun e w' => e = .returned (.bool true) ∧ ∃ m, w' = (w.drewN n).drewN m := sameU_c va vb xs (w.drewN n) ha hb

theorem Evo.drewN {T : Nat × Nat → Prop} {w w' : World} {ow ow' : Nat → Nat × Nat} (h : Evo T w ow w' ow') (n : Nat) : Evo T w ow (w'.drewN n) ow' :=
  ⟨h.os, h.tape, h.output, h.size, h.same, h.block⟩

theorem joinM_nil (ds : List Int) : joinM ds [] = ds := by
  unfold joinM
  rw [List.length_nil, padTo_small ds 0 (Nat.zero_le _), mxTo_zero]

/-- The slice of slices that the law lays out: the rows of 'keep', nil behind them, one row set anew. -/
theorem want_rd {w : World} {ow : Nat → Nat × Nat} {tg tg2 : Nat × Nat} {t H N c g : Nat} {vs : List Value} {css : List (List Int)} {vt : Value} {ys : List Int} (hN : N = max css.length (g + 1)) (hm : N ≤ maxLen) (hR : Rows2 w ow t vs css)
    (hW : Row w ow tg 23 (.slice (some ⟨H, 0, none⟩) N c) ((Laid vs N css.length (.slice none 0 0)).set g vt)) (hT : Row w ow tg2 38 vt (u32s ys)) : RdUU w (.slice (some ⟨H, 0, none⟩) N c) ((padC css (g + 1)).set g ys) := by
  have hl : ((padC css (g + 1)).set g ys).length = N := by simp [padC_length, hN]
  refine ⟨some ⟨H, 0, none⟩, c, by rw [hl], (fun h => by cases h), by rw [hl]; exact hm, fun _ => ⟨H, 0, rfl, fun i x hi => ?_⟩⟩
  have hlt : i < N := by rw [← hl]; exact (List.getElem?_eq_some_iff.1 hi).1
  rw [Nat.zero_add]
  by_cases hig : i = g
  · subst hig
    have hx : ys = x := by
      have : i < (padC css (i + 1)).length := by rw [padC_length]; omega
      simpa [this] using hi
    subst hx
    refine ⟨vt, hW.cell ?_, hT.rd⟩
    have : i < (Laid vs N css.length (.slice none 0 0)).length := by simp [Laid, hR.1]; omega
    simp [this]
  · rw [List.getElem?_set_ne (Ne.symm hig)] at hi
    by_cases hic : i < css.length
    · unfold padC at hi
      rw [List.getElem?_append_left hic] at hi
      obtain ⟨v, hv, hr⟩ := hR.2 i x hi
      refine ⟨v, hW.cell ?_, hr.rd⟩
      rw [List.getElem?_set_ne (Ne.symm hig), Laid, List.getElem?_append_left (by simp [hR.1]; omega), List.getElem?_take, if_pos hic]
      exact hv
    · unfold padC at hi
      rw [List.getElem?_append_right (by omega), List.getElem?_replicate] at hi
      have hx : x = [] := by
        split at hi
        · cases hi; rfl
        · cases hi
      subst hx
      refine ⟨.slice none 0 0, hW.cell ?_, none, 0, rfl, fun _ => ⟨rfl, rfl⟩, Nat.zero_le _, fun h => by simp at h⟩
      rw [List.getElem?_set_ne (Ne.symm hig), Laid, List.getElem?_append_right (by simp [hR.1]; omega), List.getElem?_replicate, if_pos (by simp [hR.1]; omega)]

set_option maxHeartbeats 4000000 in
theorem det_walk (v0 vd : Value) (css : List (List Int)) (ds : List Int) (child : Int) (w : World) (h0 : RdUU w v0 css) (hd : RdU w vd ds) :
    Calls Try.prog 5 #[v0, .int .i64 child, vd] w fun e w' => e = .returned (.bool true) ∧ Below w.heap.size w w' := by
  have H0 := hid h0
  have HD := hid hd
  obtain ⟨a0, c0, rfl, -, hm0, -⟩ := h0
  obtain ⟨ad, cd, rfl, -, hmd, -⟩ := hd
  unfold maxLen at hm0 hmd
  go_enter Try.func5, Try.ntmps5
  go_wp2_with fail
  refine (zz29 _ css child _ ds w H0.out HD.out).mono ?_
  rintro e w' ⟨⟨b, rfl⟩, hw⟩
  subst w'
  cases b
  · go_wp2
    go_ret
    exact ⟨rfl, Below.refl _ _⟩
  go_wp2_with fail
  refine (nb12 _ css _ H0.out).mono ?_
  rintro e w' ⟨⟨r, rfl, hr1, hr2⟩, hw⟩
  subst w'
  have HR := hid hr2
  clear hr2
  rcases Nat.lt_or_ge 1048576 r with hr | hr
  · have hr' : (1048576 : Int) < (r : Int) := by omega
    go_wp2
    go_ret
    exact ⟨rfl, Below.refl _ _⟩
  obtain ⟨hcl, hci⟩ := HR.out hr
  have HCI := hid hci
  clear hci
  have hr' : (r : Int) ≤ 1048576 := by omega
  by_cases ht : ds.length ≤ (1048576 - r) / 4 ∧ 0 ≤ child ∧ child ≤ 65536 ∧ 0 < css.length
  · obtain ⟨ht1, ht2, ht3, ht4⟩ := ht
    have ht1' : (ds.length : Int) ≤ (1048576 - (r : Int)) / 4 := by omega
    obtain ⟨g, rfl⟩ : ∃ g : Nat, child = (g : Int) := ⟨child.toNat, by omega⟩
    have hbi : ∀ c ∈ css, c.length ≤ 1000000000 := fun c hc => by have := HCI.out c hc; omega
    have HBI := hid hbi
    have hdl : ds.length ≤ 1000000000 := by omega
    clear hbi
    go_wp2_with fail
    refine (cloneUU_c _ css w (fun _ => (0, 0)) 1 (by omega) HBI.out H0.out).mono ?_
    rintro e w1 ⟨v1, ow1, rfl, hU1, hE1⟩
    have U1 := hid hU1
    have E1 := hid hE1
    clear hU1 hE1
    go_wp2_with fail
    refine (cloneU_e _ ds w1 ow1 (2, 0) hdl (HD.out.evo E1.out (fun _ h => h))).mono ?_
    rintro e w2 ⟨vd2, ow2, rfl, hR2, hE2⟩
    have R2 := hid hR2
    have E2 := hid hE2
    have U2 := hid (U1.out.evo hE2 (fun _ h => h))
    clear hR2 hE2 U1
    go_wp2_with fail
    refine (cloneUU_c _ css w2 ow2 3 (by omega) HBI.out U2.out.rd).mono ?_
    rintro e w3 ⟨v3, ow3, rfl, hU3, hE3⟩
    have K3 := hid hU3
    have E3 := hid ((E1.out.trans E2.out).trans hE3)
    have U3 := hid (U2.out.evo hE3 (fun _ h => h))
    have R3 := hid (R2.out.evo hE3 (fun h => h))
    clear hU3 hE3 U2 R2 E1 E2
    go_wp2_with fail
    refine (cloneU_e _ ds w3 ow3 (4, 0) hdl R3.out.rd).mono ?_
    rintro e w4 ⟨v4, ow4, rfl, hR4, hE4⟩
    have D4 := hid hR4
    have E4 := hid (E3.out.trans hE4)
    have U4 := hid (U3.out.evo hE4 (fun _ h => h))
    have R4 := hid (R3.out.evo hE4 (fun h => h))
    have K4 := hid (K3.out.evo hE4 (fun _ h => h))
    clear hR4 hE4 U3 R3 K3 E3
    go_wp2_with fail
    refine (newModel_c _ css w4 ow4 1 (by omega) U4.out).mono ?_
    rintro e w5 ⟨mb, ow5, rfl, hM5, hE5⟩
    have M5 := hid hM5
    have E5 := hid (E4.out.trans hE5)
    have R5 := hid (R4.out.evo hE5 (fun h => h))
    have K5 := hid (K4.out.evo hE5 (fun _ h => h))
    have D5 := hid (D4.out.evo hE5 (fun h => h))
    clear hM5 hE5 U4 R4 K4 D4 E4
    go_wp2_with fail
    refine (newWg_c _ ds w5 ow5 2 R5.out).mono ?_
    rintro e w6 ⟨wb, ow6, rfl, hW6, hE6⟩
    have W6 := hid hW6
    have E6 := hid (E5.out.trans hE6)
    have M6 := hid (M5.out.evo hE6 (fun _ h => h))
    have K6 := hid (K5.out.evo hE6 (fun _ h => h))
    have D6 := hid (D5.out.evo hE6 (fun h => h))
    clear hW6 hE6 M5 R5 K5 D5 E5
    go_wp2_with fail
    refine (detached_c mb 1 g css w6 ow6 (by omega) (by omega) M6.out).mono ?_
    rintro e w7 ⟨ow7, rfl, hM7, hE7⟩
    have M7 := hid hM7
    have E7 := hid ((Evo.none (T := DuoTag 1 2) E6.out).trans (hE7.mono fun x hx => .inl hx))
    have W7 := hid (W6.out.evo hE7 (fun i => by simp [GrpTag]))
    have K7 := hid (K6.out.evo hE7 (fun i => by simp [GrpTag]))
    have D7 := hid (D6.out.evo hE7 (by simp [GrpTag]))
    clear hM7 hE7 M6 W6 K6 D6 E6
    have hpl : ((padC css (g + 1)).set g []).length ≤ 1000000 := by simp [padC_length]; omega
    have hpg : ((padC css (g + 1)).set g [])[g]? = some [] := by
      have : g < (padC css (g + 1)).length := by rw [padC_length]; omega
      simp [this]
    have HPL := hid hpl
    have HPG := hid hpg
    clear hpl hpg
    go_wp2_with fail
    refine (add_neg mb 1 g wb 2 (-1) _ [] ds w7 ow7 (by decide) (by decide) HPL.out HPG.out (by simp) hdl M7.out W7.out).mono ?_
    rintro e w8 ⟨ow8, rfl, hM8, hW8, hE8⟩
    rw [List.set_set] at hM8
    rw [joinM_nil] at hW8
    have M8 := hid hM8
    have W8 := hid hW8
    have E8 := hid (E7.out.trans hE8)
    have K8 := hid (K7.out.evo hE8 (fun i => by simp [DuoTag]))
    have D8 := hid (D7.out.evo hE8 (by simp [DuoTag]))
    clear hM8 hW8 hE8 M7 W7 K7 D7 E7 HPL HPG
    obtain ⟨vs, hK, hKs⟩ := K8.out
    obtain ⟨a3, c3, rfl⟩ := hK.shape
    rw [hKs.1] at hK ⊢
    have K9 := hid hK
    have KS := hid hKs
    clear hK hKs K8
    obtain ⟨i0, hi, hz0, hz1, hz2⟩ := info_parts info23
    obtain ⟨N, hN⟩ : ∃ N, N = max css.length (g + 1) := ⟨_, rfl⟩
    have hNN : (css.length < g + 1 ∧ N = g + 1) ∨ (g + 1 ≤ css.length ∧ N = css.length) := by omega
    have hNb : N ≤ 1000000 := by omega
    have hNc : css.length ≤ N := by omega
    have hNg : g < N := by omega
    have HN := hid hN
    clear hN
    rcases hNN with ⟨hlt, hn⟩ | ⟨hlt, hn⟩
    all_goals
      have HE := hid hn
      clear hn
      go_wp2_with (at_make; refine wpList_make_full _ rfl _ _ 22 rfl 0 23 i0 (.slice none 0 0) 1 Try.underlying22 hi hz0 hz1 _ _ _ _ N rfl rfl (by have := HE.out; omega) (by have := HE.out; omega) (by rw [hz2]; omega) (by unfold maxLen; omega) (Nat.zero_le _) ?_)
      intro w9 hown hgrow
      have hown' : w9.ownsRow 0 23 1 (.slice (some ⟨w8.heap.size, 0, none⟩) N N) N (madeCells #[Value.slice none 0 0] N).toList := by simpa using hown
      obtain ⟨hrow, hevo⟩ := Row.made (ow := ow8) (tg := (5, 0)) hown' hgrow
      have R9 := hid hrow
      have E9 := hid hevo
      clear hown hown' hgrow hrow hevo
      go_wp2
      go_loopw [14] (fun i wr => ∃ k : Nat, k ≤ css.length ∧ i = .int .i64 k ∧ ∃ owr, Row wr owr (5, 0) 23 (.slice (some ⟨w8.heap.size, 0, none⟩) N N) (Laid vs N k (.slice none 0 0)) ∧ Evo NoTag w8 ow8 wr owr) (fun i _ => css.length - (intOf i).toNat)
      case atStart => exact ⟨0, Nat.zero_le _, rfl, _, by simpa [Laid] using R9.out, E9.out⟩
      case round =>
        obtain ⟨k, hk, rfl, owr, hR, hE⟩ := hrel
        clear R9 E9
        by_cases hkn : k < css.length
        · have hkv : k < vs.length := by have := KS.out.1; omega
          have hkN : k < N := by omega
          obtain ⟨u, hu⟩ : ∃ u, vs[k]? = some u := ⟨vs[k], by simp⟩
          obtain ⟨au, nu, cu, rfl⟩ := KS.out.slices u (List.mem_of_getElem? hu)
          have hfm := K9.out.form
          rw [KS.out.1] at hfm
          rcases hfm with ⟨_, hv0⟩ | ⟨g3, cap3, hv, _, _, _, _⟩
          · rw [hv0] at hkv; simp at hkv
          obtain ⟨rfl, rfl⟩ : a3 = some ⟨g3, 0, none⟩ ∧ c3 = cap3 := by cases hv; exact ⟨rfl, rfl⟩
          have hcs := hE.cell (K9.out.cell hu) (fun h => h)
          obtain ⟨u0, hu0⟩ : ∃ u0, (Laid vs N k (.slice none 0 0))[k]? = some u0 := ⟨(Laid vs N k (.slice none 0 0))[k]'(by simp [Laid]; omega), by simp⟩
          have hcell := hR.cell hu0
          have hfz := hR.frozen k
          have HR' := hid (laid_rowN (by rw [KS.out.1]; exact hNc) hR hu)
          have HV' := hid (hE.fresh (grownBy_setCell wr w8.heap.size k (.slice au nu cu)) (Nat.le_refl _))
          clear hR hE hu0 hv hu
          go_wp2
          go_roundw
          case rel => exact ⟨k + 1, by omega, by go_num, owr, HR'.out, HV'.out⟩
          case measure => simp [intOf]; omega
        · obtain rfl : k = css.length := by omega
          have R10 := hid hR
          have E10 := hid hE
          clear hR hE
          go_wp2_with fail
          refine (tickU_e _ [] g 1 wr owr (6, 0) (by simp) (by omega) ⟨none, 0, rfl, fun _ => ⟨rfl, rfl⟩, Nat.zero_le _, fun h => by simp at h⟩).mono ?_
          rintro e w11 ⟨vt, ow11, rfl, hT, hE11⟩
          obtain ⟨at', ct', rfl⟩ := hT.shapeU
          have R11 := R10.out.evo hE11 (fun h => h)
          obtain ⟨u0, hu0⟩ : ∃ u0, (Laid vs N css.length (.slice none 0 0))[g]? = some u0 := ⟨(Laid vs N css.length (.slice none 0 0))[g]'(by simp [Laid, KS.out.1]; omega), by simp⟩
          have hcell := R11.cell hu0
          have hfz := R11.frozen g
          obtain ⟨hW12, hE12⟩ := R11.set g (.slice at' (tickL [] g 1).length ct')
          have hE8 := (E10.out.trans hE11)
          have hEall := hE8.fresh (grownBy_setCell w11 w8.heap.size g (.slice at' (tickL [] g 1).length ct')) (Nat.le_refl _)
          have hKS := KS.out.evo hEall (fun _ h => h)
          have hT12 := hT.evo hE12 (by simp [OneTag])
          have RD := hid (want_rd HN.out (by unfold maxLen; omega) hKS hW12 hT12)
          have M12 := hid (M8.out.evo hEall (fun _ h => h))
          have hWg := W8.out.evo hEall (fun _ h => h)
          have D12 := hid (D8.out.evo hEall (fun h => h)).rd
          have E12 := hid (E8.out.trans (Evo.none hEall))
          obtain ⟨vw, hbw, hrw⟩ := hWg
          obtain ⟨aw, cw, rfl⟩ := hrw.shapeU
          have hcw := hbw.cell
          have RW := hid hrw.rd
          clear hT R11 hu0 hW12 hE12 hE8 hEall hKS hT12 hbw hrw hE11 R10 E10
          go_wp2_with (first | (go_at_call 26; go_in) | fail)
          refine (sameU_c _ _ ds _ RW.out D12.out).mono ?_
          rintro e w13 ⟨rfl, n13, hw13⟩
          subst w13
          go_wp2_with fail
          refine (sameState_d mb 1 _ _ _ _ ow11 (by simp [padC_length]; omega) M12.out RD.out).mono ?_
          rintro e w14 ⟨rfl, n14, hw14⟩
          subst w14
          go_wp2
          go_ret
          exact ⟨rfl, (E12.out.drewN _).mine (by simp [DuoTag])⟩
  · go_wp2_with fail
    all_goals (go_ret; exact ⟨rfl, Below.refl _ _⟩)

end Go.Proofs.Qxb6615079a
