/-
  THE WALK of zzMerge.
-/
import Derived.Test.Qxb6615552aInsert
namespace Go.Proofs.Qxb6615552a
open Go.RowKit Go.Maps
open Go.RowKit (Below)
set_option maxRecDepth 100000

set_option maxHeartbeats 2000000 in
theorem merge_c (g g2 cap cap2 : Nat) (xs ys : List ByteArray) (w : World) (hmx : xs.length ≤ 1000000) (hmy : ys.length ≤ 1000000) (h : RdS w g xs) (h2 : RdS w g2 ys) (hsx : Srt xs) (hsy : Srt ys) (hx : ∀ x ∈ xs, x.size ≤ maxLen) (hy : ∀ x ∈ ys, x.size ≤ maxLen) :
    Calls Try.prog 11 #[.slice (some ⟨g, 0, none⟩) xs.length cap, .slice (some ⟨g2, 0, none⟩) ys.length cap2] w fun e w' => ∃ (g' cap' : Nat) (os : List ByteArray), e = .returned (.slice (some ⟨g', 0, none⟩) os.length cap') ∧ Srt os ∧ (∀ x, x ∈ os ↔ x ∈ xs ∨ x ∈ ys) ∧ RdS w' g' os ∧ Below w.heap.size w w' := by
  obtain ⟨i0, hi, hz0, hz1, hz2⟩ := info_parts info9
  have H1 := hid h
  have H2 := hid h2
  have HSA := hid hsx
  have HSB := hid hsy
  have HSX := hid hx
  have HSY := hid hy
  clear h h2 hsx hsy hx hy
  go_enter Try.func11, Try.ntmps11
  go_wp2_with (first
    | (at_make; refine wpList_make_own _ rfl _ _ 23 rfl w.heap.size 9 i0 (.string ⟨#[]⟩) 1 Try.underlying23 hi hz0 hz1 _ _ _ (xs.length + ys.length) rfl rfl (by first | rfl | go_num | (simp; omega)) (by rw [hz2]; omega) (by unfold maxLen; omega) (Nat.le_refl _) ?_
       intro w1 hrow1 hg1
       have HB1 : Hid (Below w.heap.size w w1) := (Below.refl _ _).grown hg1 (Nat.le_refl _) (fun j hj => by cases hj)
       have HO1 := hid hrow1
       clear hg1 hrow1))
  go_loopw [5, 6, 7] (fun v i j wr => ∃ (ki kj : Nat) (os : List ByteArray), ki ≤ xs.length ∧ kj ≤ ys.length ∧ i = .int .i64 ki ∧ j = .int .i64 kj ∧ Hid (MInv xs ys ki kj os) ∧ Hid (wr.ownsRow w.heap.size 9 1 v os.length (strs os)) ∧ Hid (v ≠ .slice none 0 0) ∧ Hid (Below w.heap.size w wr)) (fun _ i j _ => xs.length + ys.length - (intOf i).toNat - (intOf j).toNat)
  case atStart => exact ⟨0, 0, [], Nat.zero_le _, Nat.zero_le _, rfl, rfl, MInv.start xs ys, HO1, (fun hv => by cases hv), HB1⟩
  case round =>
    obtain ⟨ki, kj, os, hki, hkj, rfl, rfl, HMI, HO, HN, HB⟩ := hrel
    have HR1 : Hid (RdS wr g xs) := H1.out.below HB.out
    have HR2 : Hid (RdS wr g2 ys) := H2.out.below HB.out
    by_cases hla : ki < xs.length
    · have hla' : (ki : Int) < (xs.length : Int) := by omega
      obtain ⟨x, hx⟩ := sat hla
      have HX := hid hx
      have hxm : x ∈ xs := List.mem_of_getElem? hx
      have hc1 : wr.cell? ⟨g, ki, none⟩ = some (.string x) := HR1.out.2 ki x hx
      have hie : ((ki : Int) == (xs.length : Int)) = false := by simp; omega
      by_cases hlb : kj < ys.length
      · have hlb' : (kj : Int) < (ys.length : Int) := by omega
        obtain ⟨y, hy⟩ := sat hlb
        have HY := hid hy
        have hym : y ∈ ys := List.mem_of_getElem? hy
        have hc2 : wr.cell? ⟨g2, kj, none⟩ = some (.string y) := HR2.out.2 kj y hy
        have hje : ((kj : Int) == (ys.length : Int)) = false := by simp; omega
        have hcA : ∀ m, Calls Try.prog 16 #[.string x, .string y] (wr.drewN m) fun e w' => e = .returned (.bool (ltB x y)) ∧ ∃ j, w' = (wr.drewN m).drewN j := fun m => less_c x y (wr.drewN m) (HSX.out x hxm) (HSY.out y hym)
        have hcB : ∀ m, Calls Try.prog 16 #[.string y, .string x] (wr.drewN m) fun e w' => e = .returned (.bool (ltB y x)) ∧ ∃ j, w' = (wr.drewN m).drewN j := fun m => less_c y x (wr.drewN m) (HSY.out y hym) (HSX.out x hxm)
        clear hxm hym hx hy
        rcases hab : ltB x y with _ | _
        · rcases hba : ltB y x with _ | _
          · -- the same
            rw [hab] at hcA
            rw [hba] at hcB
            have HAB := hid hab
            have HBA := hid hba
            clear hab hba
            go_wp2
            go_quiet ((go_at_call 16; exact Calls.quiet_of (hcA _)))
            go_wp2
            generalize hwq : wr.drewN nq = wq
            have HOw : Hid (wq.ownsRow w.heap.size 9 1 u5 os.length (strs os)) := by rw [← hwq]; exact HO.out
            have HBw : Hid (Below w.heap.size w wq) := by rw [← hwq]; exact ⟨HB.out.os, HB.out.tape, HB.out.output, HB.out.size, HB.out.block⟩
            have hq1 : RdS wq g xs := H1.out.below HBw.out
            have hq2 : RdS wq g2 ys := H2.out.below HBw.out
            have hd1 : wq.cell? ⟨g, ki, none⟩ = some (.string x) := hq1.2 ki x HX.out
            have hd2 : wq.cell? ⟨g2, kj, none⟩ = some (.string y) := hq2.2 kj y HY.out
            have hcC : ∀ m, Calls Try.prog 16 #[.string y, .string x] (wq.drewN m) fun e w' => e = .returned (.bool false) ∧ ∃ j, w' = (wq.drewN m).drewN j := fun m => by
              have h3 := hcB (nq + m)
              rw [← World.drewN_drewN, hwq] at h3
              exact h3
            clear hcA hcB hwq hq1 hq2 hc1 hc2
            go_quiet ((go_at_call 16; exact Calls.quiet_of (hcC _)))
            have HOq : Hid ((wq.drewN nq).ownsRow w.heap.size 9 1 u5 os.length (strs os)) := HOw.out
            have hsq : w.heap.size ≤ (wq.drewN nq).heap.size := HBw.out.size
            go_wp2_with (first
              | (at_builtin; refine wpList_append_own _ rfl _ _ 23 rfl w.heap.size 9 i0 (.string ⟨#[]⟩) 1 16 Try.underlying23 hi hz0 hz1 hz2 rfl (by decide) _ _ _ rfl (HOq.out.alloc _) ⟨(wq.drewN nq).heap.size, 0, none⟩ 1 1 [.string x] rfl rfl (cell_one_new _ _ _) (by simp [Value.oneCell']) (by have := HMI.out.len; unfold maxLen; omega) (by have := HMI.out.len; omega) (by have := HBw.out.size; simp; omega) ?_
                 intro v3 w3 hown3 hg3 hnil3
                 have hB3 : Below w.heap.size w w3 := (Below.alloc (w := wq.drewN nq) ⟨HBw.out.os, HBw.out.tape, HBw.out.output, HBw.out.size, HBw.out.block⟩ hsq _).grown hg3 (by have := HBw.out.size; simp; omega) (fun j hj => (HOw.out.lt j hj).1)
                 have HN3 : Hid (v3 ≠ .slice none 0 0) := fun hv => HN.out (hnil3.1 hv).1
                 have HB3 := hid hB3
                 have HO3 : Hid (w3.ownsRow w.heap.size 9 1 v3 (os ++ [x]).length (strs (os ++ [x]))) := by simpa [strs, Hid] using hown3
                 clear hB3 hg3 hown3 hnil3
                 go_frame))
            go_roundw
            case rel => exact ⟨ki + 1, kj + 1, os ++ [x], by omega, by omega, by go_num, by go_num, HMI.out.fromAB HSA.out HSB.out HX.out (by rw [ltB_tri HAB.out HBA.out]; exact HY.out), HO3, HN3, HB3⟩
            case measure => simp [intOf]; omega
          · -- the second list's next
            rw [hab] at hcA
            rw [hba] at hcB
            have HAB := hid hab
            have HBA := hid hba
            clear hab hba
            go_wp2
            go_quiet ((go_at_call 16; exact Calls.quiet_of (hcA _)))
            go_wp2
            generalize hwq : wr.drewN nq = wq
            have HOw : Hid (wq.ownsRow w.heap.size 9 1 u5 os.length (strs os)) := by rw [← hwq]; exact HO.out
            have HBw : Hid (Below w.heap.size w wq) := by rw [← hwq]; exact ⟨HB.out.os, HB.out.tape, HB.out.output, HB.out.size, HB.out.block⟩
            have hq1 : RdS wq g xs := H1.out.below HBw.out
            have hq2 : RdS wq g2 ys := H2.out.below HBw.out
            have hd1 : wq.cell? ⟨g, ki, none⟩ = some (.string x) := hq1.2 ki x HX.out
            have hd2 : wq.cell? ⟨g2, kj, none⟩ = some (.string y) := hq2.2 kj y HY.out
            have hcC : ∀ m, Calls Try.prog 16 #[.string y, .string x] (wq.drewN m) fun e w' => e = .returned (.bool true) ∧ ∃ j, w' = (wq.drewN m).drewN j := fun m => by
              have h3 := hcB (nq + m)
              rw [← World.drewN_drewN, hwq] at h3
              exact h3
            clear hcA hcB hwq hq1 hq2 hc1 hc2
            go_quiet ((go_at_call 16; exact Calls.quiet_of (hcC _)))
            have HOq : Hid ((wq.drewN nq).ownsRow w.heap.size 9 1 u5 os.length (strs os)) := HOw.out
            have hsq : w.heap.size ≤ (wq.drewN nq).heap.size := HBw.out.size
            go_wp2_with (first
              | (at_builtin; refine wpList_append_own _ rfl _ _ 23 rfl w.heap.size 9 i0 (.string ⟨#[]⟩) 1 16 Try.underlying23 hi hz0 hz1 hz2 rfl (by decide) _ _ _ rfl (HOq.out.alloc _) ⟨(wq.drewN nq).heap.size, 0, none⟩ 1 1 [.string y] rfl rfl (cell_one_new _ _ _) (by simp [Value.oneCell']) (by have := HMI.out.len; unfold maxLen; omega) (by have := HMI.out.len; omega) (by have := HBw.out.size; simp; omega) ?_
                 intro v3 w3 hown3 hg3 hnil3
                 have hB3 : Below w.heap.size w w3 := (Below.alloc (w := wq.drewN nq) ⟨HBw.out.os, HBw.out.tape, HBw.out.output, HBw.out.size, HBw.out.block⟩ hsq _).grown hg3 (by have := HBw.out.size; simp; omega) (fun j hj => (HOw.out.lt j hj).1)
                 have HN3 : Hid (v3 ≠ .slice none 0 0) := fun hv => HN.out (hnil3.1 hv).1
                 have HB3 := hid hB3
                 have HO3 : Hid (w3.ownsRow w.heap.size 9 1 v3 (os ++ [y]).length (strs (os ++ [y]))) := by simpa [strs, Hid] using hown3
                 clear hB3 hg3 hown3 hnil3
                 go_frame))
            go_roundw
            case rel => exact ⟨ki, kj + 1, os ++ [y], by omega, by omega, by go_num, by go_num, (HMI.out.turn.fromA HSB.out HSA.out HY.out (.inr ⟨x, HX.out, HBA.out⟩)).turn, HO3, HN3, HB3⟩
            case measure => simp [intOf]; omega
        · -- the first list's next
          rw [hab] at hcA
          have HAB := hid hab
          clear hab
          go_wp2
          go_quiet ((go_at_call 16; exact Calls.quiet_of (hcA _)))
          have HOq : Hid ((wr.drewN nq).ownsRow w.heap.size 9 1 u5 os.length (strs os)) := HO.out
          have hsq : w.heap.size ≤ (wr.drewN nq).heap.size := HB.out.size
          go_wp2_with (first
            | (at_builtin; refine wpList_append_own _ rfl _ _ 23 rfl w.heap.size 9 i0 (.string ⟨#[]⟩) 1 16 Try.underlying23 hi hz0 hz1 hz2 rfl (by decide) _ _ _ rfl (HOq.out.alloc _) ⟨(wr.drewN nq).heap.size, 0, none⟩ 1 1 [.string x] rfl rfl (cell_one_new _ _ _) (by simp [Value.oneCell']) (by have := HMI.out.len; unfold maxLen; omega) (by have := HMI.out.len; omega) (by have := HB.out.size; simp; omega) ?_
               intro v3 w3 hown3 hg3 hnil3
               have hB3 : Below w.heap.size w w3 := (Below.alloc (w := wr.drewN nq) ⟨HB.out.os, HB.out.tape, HB.out.output, HB.out.size, HB.out.block⟩ hsq _).grown hg3 (by have := HB.out.size; simp; omega) (fun j hj => (HO.out.lt j hj).1)
               have HN3 : Hid (v3 ≠ .slice none 0 0) := fun hv => HN.out (hnil3.1 hv).1
               have HB3 := hid hB3
               have HO3 : Hid (w3.ownsRow w.heap.size 9 1 v3 (os ++ [x]).length (strs (os ++ [x]))) := by simpa [strs, Hid] using hown3
               clear hB3 hg3 hown3 hnil3
               go_frame))
          go_roundw
          case rel => exact ⟨ki + 1, kj, os ++ [x], by omega, by omega, by go_num, by go_num, HMI.out.fromA HSA.out HSB.out HX.out (.inr ⟨y, HY.out, HAB.out⟩), HO3, HN3, HB3⟩
          case measure => simp [intOf]; omega
      · -- the second list is at its end
        obtain rfl : kj = ys.length := by omega
        have hje : ((ys.length : Int) == (ys.length : Int)) = true := by simp
        clear hx hxm
        go_wp2
        go_quiet (fail)
        have HOq : Hid ((wr.drewN nq).ownsRow w.heap.size 9 1 u5 os.length (strs os)) := HO.out
        have hsq : w.heap.size ≤ (wr.drewN nq).heap.size := HB.out.size
        go_wp2_with (first
          | (at_builtin; refine wpList_append_own _ rfl _ _ 23 rfl w.heap.size 9 i0 (.string ⟨#[]⟩) 1 16 Try.underlying23 hi hz0 hz1 hz2 rfl (by decide) _ _ _ rfl (HOq.out.alloc _) ⟨(wr.drewN nq).heap.size, 0, none⟩ 1 1 [.string x] rfl rfl (cell_one_new _ _ _) (by simp [Value.oneCell']) (by have := HMI.out.len; unfold maxLen; omega) (by have := HMI.out.len; omega) (by have := HB.out.size; simp; omega) ?_
             intro v3 w3 hown3 hg3 hnil3
             have hB3 : Below w.heap.size w w3 := (Below.alloc (w := wr.drewN nq) ⟨HB.out.os, HB.out.tape, HB.out.output, HB.out.size, HB.out.block⟩ hsq _).grown hg3 (by have := HB.out.size; simp; omega) (fun j hj => (HO.out.lt j hj).1)
             have HN3 : Hid (v3 ≠ .slice none 0 0) := fun hv => HN.out (hnil3.1 hv).1
             have HB3 := hid hB3
             have HO3 : Hid (w3.ownsRow w.heap.size 9 1 v3 (os ++ [x]).length (strs (os ++ [x]))) := by simpa [strs, Hid] using hown3
             clear hB3 hg3 hown3 hnil3
             go_frame))
        go_roundw
        case rel => exact ⟨ki + 1, ys.length, os ++ [x], by omega, by omega, by go_num, by go_num, HMI.out.fromA HSA.out HSB.out HX.out (.inl rfl), HO3, HN3, HB3⟩
        case measure => simp [intOf]; omega
    · by_cases hlb : kj < ys.length
      · obtain rfl : ki = xs.length := by omega
        have hlb' : (kj : Int) < (ys.length : Int) := by omega
        obtain ⟨y, hy⟩ := sat hlb
        have HY := hid hy
        have hc2 : wr.cell? ⟨g2, kj, none⟩ = some (.string y) := HR2.out.2 kj y hy
        have hje : ((kj : Int) == (ys.length : Int)) = false := by simp; omega
        have hie : ((xs.length : Int) == (xs.length : Int)) = true := by simp
        have hla2 : decide ((xs.length : Int) < (xs.length : Int)) = false := by simp
        clear hy
        go_wp2
        go_quiet (fail)
        go_wp2
        generalize hwq : wr.drewN nq = wq
        have HOw : Hid (wq.ownsRow w.heap.size 9 1 u5 os.length (strs os)) := by rw [← hwq]; exact HO.out
        have HBw : Hid (Below w.heap.size w wq) := by rw [← hwq]; exact ⟨HB.out.os, HB.out.tape, HB.out.output, HB.out.size, HB.out.block⟩
        have hq1 : RdS wq g xs := H1.out.below HBw.out
        have hq2 : RdS wq g2 ys := H2.out.below HBw.out
        have hd2 : wq.cell? ⟨g2, kj, none⟩ = some (.string y) := hq2.2 kj y HY.out
        clear hwq hq1 hq2 hc2
        go_quiet (fail)
        have HOq : Hid ((wq.drewN nq).ownsRow w.heap.size 9 1 u5 os.length (strs os)) := HOw.out
        have hsq : w.heap.size ≤ (wq.drewN nq).heap.size := HBw.out.size
        go_wp2_with (first
          | (at_builtin; refine wpList_append_own _ rfl _ _ 23 rfl w.heap.size 9 i0 (.string ⟨#[]⟩) 1 16 Try.underlying23 hi hz0 hz1 hz2 rfl (by decide) _ _ _ rfl (HOq.out.alloc _) ⟨(wq.drewN nq).heap.size, 0, none⟩ 1 1 [.string y] rfl rfl (cell_one_new _ _ _) (by simp [Value.oneCell']) (by have := HMI.out.len; unfold maxLen; omega) (by have := HMI.out.len; omega) (by have := HBw.out.size; simp; omega) ?_
             intro v3 w3 hown3 hg3 hnil3
             have hB3 : Below w.heap.size w w3 := (Below.alloc (w := wq.drewN nq) ⟨HBw.out.os, HBw.out.tape, HBw.out.output, HBw.out.size, HBw.out.block⟩ hsq _).grown hg3 (by have := HBw.out.size; simp; omega) (fun j hj => (HOw.out.lt j hj).1)
             have HN3 : Hid (v3 ≠ .slice none 0 0) := fun hv => HN.out (hnil3.1 hv).1
             have HB3 := hid hB3
             have HO3 : Hid (w3.ownsRow w.heap.size 9 1 v3 (os ++ [y]).length (strs (os ++ [y]))) := by simpa [strs, Hid] using hown3
             clear hB3 hg3 hown3 hnil3
             go_frame))
        go_roundw
        case rel => exact ⟨xs.length, kj + 1, os ++ [y], by omega, by omega, by go_num, by go_num, (HMI.out.turn.fromA HSB.out HSA.out HY.out (.inl rfl)).turn, HO3, HN3, HB3⟩
        case measure => simp [intOf]; omega
      · obtain rfl : ki = xs.length := by omega
        obtain rfl : kj = ys.length := by omega
        go_wp2
        go_ret
        have hrow4 := HO.out
        rcases hrow4.2 with ⟨hv, _⟩ | ⟨g4, cap4, cur4, hv, hbase, _⟩
        · exact absurd hv HN.out
        subst hv
        exact ⟨g4, cap4, os, rfl, HMI.out.ended.1, HMI.out.ended.2, RdS.of_row (by exact hrow4), HB.out⟩

end Go.Proofs.Qxb6615552a
