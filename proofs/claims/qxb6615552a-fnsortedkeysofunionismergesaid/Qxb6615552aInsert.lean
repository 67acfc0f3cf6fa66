/-
  THE WALK of zzInsert.
-/
import Derived.Test.Qxb6615552aTests
import Derived.Test.Qxb6615552aSorted
namespace Go.Proofs.Qxb6615552a
open Go.RowKit Go.Maps
open Go.RowKit (Below)
set_option maxRecDepth 100000

theorem size9 : (Try.prog.info? 9).map (·.size) = some 1 := by kernel_rfl
def strs (xs : List ByteArray) : List Value := xs.map Value.string
theorem strs_length (xs : List ByteArray) : (strs xs).length = xs.length := by simp [strs]
theorem strs_get {xs : List ByteArray} {i : Nat} {u : Value} (h : (strs xs)[i]? = some u) : ∃ x, xs[i]? = some x ∧ u = .string x := by
  simp only [strs, List.getElem?_map, Option.map_eq_some_iff] at h
  obtain ⟨x, hx, rfl⟩ := h
  exact ⟨x, hx, rfl⟩
theorem strs_one (xs : List ByteArray) : ∀ u ∈ strs xs, u.oneCell' = true := fun u hu => by
  obtain ⟨x, _, rfl⟩ := List.mem_map.1 hu; rfl

theorem run_tail (g len cap k : Nat) (hk : k ≤ len) (hc : len ≤ cap) :
    ∃ off, (∀ wx, (Instr.slice 23 (.slice (some ⟨g, 0, none⟩) len cap) (some (.int .i64 (k : Int))) none none).run Try.prog wx = .ok (.slice (some ⟨g, off, none⟩) (len - k) (cap - k)) wx) ∧ (k < len → off = k) := by
  refine ⟨if cap = k then 0 else k, fun wx => ?_, fun h => by rw [if_neg (by omega)]⟩
  rw [run_slice_l (P := Try.prog) wx 23 _ len cap (by kernel_rfl) .i64 k (by omega) (by omega)]
  have : (sizeOf (Try.prog.elem 23)).run Try.prog wx = .ok 1 wx := by kernel_rfl
  rw [this]
  simp only [Result.andThen, sliced, Int.toNat_natCast]
  by_cases h : cap = k
  · simp [h]
  · simp [h, Addr.add]
    omega

theorem run_head (g len cap k : Nat) (hk : k ≤ cap) (wx : World) :
    (Instr.slice 23 (.slice (some ⟨g, 0, none⟩) len cap) none (some (.int .i64 (k : Int))) none).run Try.prog wx = .ok (.slice (some ⟨g, 0, none⟩) k cap) wx := by
  rw [run_slice_h (P := Try.prog) wx 23 _ len cap (by kernel_rfl) .i64 k (by omega) (by omega)]
  have : (sizeOf (Try.prog.elem 23)).run Try.prog wx = .ok 1 wx := by kernel_rfl
  rw [this]
  simp [Result.andThen, sliced, Addr.add]

/-- The strings are copied into the row that was just made. -/
theorem run_copy_s {w w1 : World} {g cap : Nat} {xs : List ByteArray} (hown : w1.ownsRow 0 9 1 (.slice (some ⟨w.heap.size, 0, none⟩) xs.length xs.length) xs.length (madeCells #[Value.string ⟨#[]⟩] xs.length).toList) (hg : w.grownBy w1 none)
    (hr : RdS w g xs) (ty : TypeId) :
    ∃ w2, (Builtin.copy_ #[23, 23] ty #[.slice (some ⟨w.heap.size, 0, none⟩) xs.length xs.length, .slice (some ⟨g, 0, none⟩) xs.length cap]).run Try.prog w1 = .ok (goInt xs.length) w2 ∧
      RdS w2 w.heap.size xs ∧ Below w.heap.size w w2 := by
  have hb1 : Below w.heap.size w w1 := (Below.refl _ _).grown hg (Nat.le_refl _) (fun k hk => by cases hk)
  rcases hown.2 with ⟨hv', _⟩ | ⟨g', cap', cur, hv', _, hgg, hnc, hcm, hcs, htake⟩
  · cases hv'
  · cases hv'
    have hsz : cur.size = xs.length := by omega
    have hrun := run_copy_row (P := Try.prog) w1 23 23 ty 9 w.heap.size 0 xs.length xs.length ⟨g, 0, none⟩ xs.length cap cur 9 (strs xs) Try.underlying23 size9 hgg (by rw [strs_length]; exact (Nat.min_self _).symm)
      (fun j u hu => by
        obtain ⟨x, hx, rfl⟩ := strs_get hu
        rw [Addr.add_lit, Nat.zero_add]
        exact (hr.below hb1).2 j x hx) (by rw [strs_length]; omega) (strs_one _)
    rw [strs_length] at hrun
    have hdrop : cur.toList.drop (0 + xs.length) = [] := List.drop_eq_nil_of_le (by simp; omega)
    rw [hdrop] at hrun
    simp only [List.take_zero, List.nil_append, List.append_nil] at hrun
    refine ⟨_, hrun, ⟨?_, fun i x hx => ?_⟩, below_setRow hb1 (Nat.le_refl _) _⟩
    · have := (Array.getElem?_eq_some_iff.1 hgg).1
      simpa [World.setRow] using this
    · rw [cell_of_row _ w.heap.size i _ 9 (0, 0) (setRow_heap w1 w.heap.size cur _ 9 _ hgg)]
      simp [strs, hx]

set_option maxHeartbeats 1000000 in
theorem insert_c (g cap : Nat) (xs : List ByteArray) (key : ByteArray) (w : World) (hm : xs.length ≤ 1000000) (hcap : xs.length ≤ cap) (h : RdS w g xs) (hs : Srt xs) (hsm : ∀ x ∈ xs, x.size ≤ maxLen) (hkey : key.size ≤ maxLen) :
    Calls Try.prog 10 #[.slice (some ⟨g, 0, none⟩) xs.length cap, .string key] w fun e w' => ∃ (g' cap' : Nat) (ys : List ByteArray), e = .returned (.slice (some ⟨g', 0, none⟩) ys.length cap') ∧ Srt ys ∧ (∀ x, x ∈ ys ↔ x ∈ xs ∨ x = key) ∧ RdS w' g' ys ∧ Below w.heap.size w w' := by
  obtain ⟨i0, hi, hz0, hz1, hz2⟩ := info_parts info9
  have H1 := hid h
  have HS := hid hs
  have HSM := hid hsm
  clear h hs hsm
  go_enter Try.func10, Try.ntmps10
  go_wp2
  go_loopw [5] (fun i wr => ∃ k n : Nat, k ≤ xs.length ∧ i = .int .i64 k ∧ wr = w.drewN n ∧ Hid (∀ x ∈ xs.take k, ltB x key = true)) (fun i _ => xs.length - (intOf i).toNat)
  case atStart => exact ⟨0, 0, Nat.zero_le _, rfl, rfl, fun x hx => by simp at hx⟩
  case round =>
    obtain ⟨k, n, hk, rfl, hwr, HP⟩ := hrel
    have HRw : Hid (RdS wr g xs) := by rw [hwr]; exact H1.out
    have HBw : Hid (Below w.heap.size w wr) := by rw [hwr]; exact ⟨rfl, rfl, rfl, Nat.le_refl _, fun _ _ => rfl⟩
    have HWR := hid hwr
    clear hwr
    by_cases hlt : k < xs.length
    · obtain ⟨x, hx⟩ := sat hlt
      have hxm : x ∈ xs := List.mem_of_getElem? hx
      have HX := hid hx
      have hlt' : (k : Int) < (xs.length : Int) := by omega
      have hcall := less_c x key wr (HSM.out x hxm) hkey
      have hc1 : wr.cell? ⟨g, k, none⟩ = some (.string x) := HRw.out.2 k x hx
      clear hx hxm
      rcases hb : ltB x key with _ | _
      · -- the place is found
        rw [hb] at hcall
        have HLB := hid hb
        clear hb
        go_wp2_with fail
        refine hcall.mono ?_
        rintro e w' ⟨rfl, j, hw'⟩
        have HRd : Hid (RdS w' g xs) := by rw [hw']; exact HRw.out
        have HBW : Hid (Below w.heap.size w w') := by rw [hw']; exact ⟨HBw.out.os, HBw.out.tape, HBw.out.output, HBw.out.size, HBw.out.block⟩
        have hc2 : w'.cell? ⟨g, k, none⟩ = some (.string x) := HRd.out.2 k x HX.out
        clear hw' hcall hc1
        by_cases hxk : x = key
        · -- it is there already
          subst hxk
          go_wp2_with (first
            | (at_make; refine wpList_make_full _ rfl _ _ 23 rfl 0 9 i0 (.string ⟨#[]⟩) 1 Try.underlying23 hi hz0 hz1 _ _ _ _ xs.length rfl rfl rfl rfl (by rw [hz2]; omega) (by unfold maxLen; omega) (Nat.zero_le _) ?_)
            | fail)
          intro w1 hown1 hg1
          obtain ⟨w2, hcopy, hR2, hB2⟩ := run_copy_s (cap := cap) hown1 hg1 HRd.out 3
          have HR2 := hid hR2
          have HB2 := hid hB2
          clear hR2 hB2 hown1 hg1
          go_wp2
          go_ret
          refine ⟨w'.heap.size, xs.length, xs, rfl, HS.out, fun y => ⟨.inl, fun hy => ?_⟩, HR2.out, ?_⟩
          · rcases hy with hy | rfl
            · exact hy
            · exact List.mem_of_getElem? HX.out
          · exact HBW.out.trans (HB2.out.mono HBW.out.size)
        · have hd : (x.toList == key.toList) = false := by
            rw [beq_eq_false_iff_ne]; intro e
            rw [ByteArray.toList_eq, ByteArray.toList_eq] at e
            exact hxk (ba_ext e)
          have HHI : Hid (∀ a, xs[k]? = some a → ltB a key = false ∧ a ≠ key) := fun a ha => by
            have e := ha.symm.trans HX.out
            cases e
            exact ⟨HLB.out, hxk⟩
          clear hxk
          have HLO : Hid (∀ x ∈ xs.take k, ltB x key = true) := HP
          obtain ⟨off, hsl, hoff⟩ := run_tail g xs.length cap k hk hcap
          have HOF := hid hoff
          have hsh := run_head g xs.length cap k (by omega)
          clear hoff
          go_wp2_with (first
            | (at_make; refine wpList_make_own _ rfl _ _ 23 rfl w'.heap.size 9 i0 (.string ⟨#[]⟩) 1 Try.underlying23 hi hz0 hz1 _ _ _ (xs.length + 1) rfl rfl (by first | rfl | go_num | (simp; omega)) (by rw [hz2]; omega) (by unfold maxLen; omega) (Nat.le_refl _) ?_
               intro w1 hrow1 hg1
               have hB1 : Below w'.heap.size w' w1 := (Below.refl _ _).grown hg1 (Nat.le_refl _) (fun j hj => by cases hj)
               have HR1 : Hid (RdS w1 g xs) := HRd.out.below hB1
               have HB1 := hid hB1
               have HO1 := hid hrow1
               clear hB1 hg1 hrow1)
            | (at_builtin; refine wpList_append_own _ rfl _ _ 23 rfl w'.heap.size 9 i0 (.string ⟨#[]⟩) 1 16 Try.underlying23 hi hz0 hz1 hz2 rfl (by decide) _ _ _ rfl HO3.out ⟨g, off, none⟩ (xs.length - k) (cap - k) (strs (xs.drop k)) rfl (by rw [strs_length]; simp) (fun j u hu => ?_) (strs_one _) (by unfold maxLen; omega) (by omega) HB3.out.size ?_
               · obtain ⟨y, hy, rfl⟩ := strs_get hu
                 rw [List.getElem?_drop] at hy
                 have hlt3 := (List.getElem?_eq_some_iff.1 hy).1
                 rw [Addr.add_lit, HOF.out (by omega)]
                 exact HR3.out.2 _ y hy
               intro v4 w4 hown4 hg4 hnil4
               have hB4 : Below w'.heap.size w' w4 := HB3.out.grown hg4 HB3.out.size (fun j hj => (HO3.out.lt j hj).1)
               have HN4 : Hid (v4 ≠ .slice none 0 0) := fun hv => HN3.out (hnil4.1 hv).1
               have HB4 := hid hB4
               have HO4 := hid hown4
               clear hB4 hg4 hown4 hnil4
               go_frame)
            | (at_builtin; refine wpList_append_own _ rfl _ _ 23 rfl w'.heap.size 9 i0 (.string ⟨#[]⟩) 1 16 Try.underlying23 hi hz0 hz1 hz2 rfl (by decide) _ _ _ rfl (HO2.out.alloc _) ⟨w2.heap.size, 0, none⟩ 1 1 [.string key] rfl rfl (cell_one_new _ _ _) (by simp [Value.oneCell']) (by unfold maxLen; omega) (by omega) (by have := HB2.out.size; simp; omega) ?_
               intro v3 w3 hown3 hg3 hnil3
               have hB3 : Below w'.heap.size w' w3 := (HB2.out.alloc HB2.out.size _).grown hg3 (by have := HB2.out.size; simp; omega) (fun j hj => (HO2.out.lt j hj).1)
               have HR3 : Hid (RdS w3 g xs) := HRd.out.below hB3
               have HN3 : Hid (v3 ≠ .slice none 0 0) := fun hv => HN2.out (hnil3.1 hv).1
               have HB3 := hid hB3
               have HO3 := hid hown3
               clear hB3 hg3 hown3 hnil3
               go_frame)
            | (at_builtin; refine wpList_append_own _ rfl _ _ 23 rfl w'.heap.size 9 i0 (.string ⟨#[]⟩) 1 16 Try.underlying23 hi hz0 hz1 hz2 rfl (by decide) _ _ _ rfl HO1.out ⟨g, 0, none⟩ k cap (strs (xs.take k)) rfl (by rw [strs_length]; simp; omega) (fun j u hu => ?_) (strs_one _) (by unfold maxLen; omega) (by omega) HB1.out.size ?_
               · obtain ⟨y, hy, rfl⟩ := strs_get hu
                 rw [Addr.add_lit, Nat.zero_add]
                 exact HR1.out.2 j y (by rw [List.getElem?_take] at hy; split at hy <;> first | exact hy | cases hy)
               intro v2 w2 hown2 hg2 hnil2
               have hB2 : Below w'.heap.size w' w2 := HB1.out.grown hg2 HB1.out.size (fun j hj => (HO1.out.lt j hj).1)
               have HR2 : Hid (RdS w2 g xs) := HRd.out.below hB2
               have HN2 : Hid (v2 ≠ .slice none 0 0) := fun hv => by cases (hnil2.1 hv).1
               have HB2 := hid hB2
               have HO2 := hid hown2
               clear hB2 hg2 hown2 hnil2
               go_frame))
          go_ret
          have hfin : Srt (xs.take k ++ [key] ++ xs.drop k) ∧ ∀ x, x ∈ xs.take k ++ [key] ++ xs.drop k ↔ x ∈ xs ∨ x = key := take_ins HS.out hk HLO.out HHI.out
          have hrow4 := HO4.out
          rw [show ([] ++ strs (xs.take k) ++ [Value.string key] ++ strs (xs.drop k)) = (xs.take k ++ [key] ++ xs.drop k).map Value.string by simp [strs]] at hrow4
          rw [show 0 + k + 1 + (xs.length - k) = (xs.take k ++ [key] ++ xs.drop k).length by simp; omega] at hrow4
          rcases hrow4.2 with ⟨hv, _⟩ | ⟨g4, cap4, cur4, hv, hbase, _⟩
          · exact absurd hv HN4.out
          subst hv
          refine ⟨g4, cap4, _, rfl, hfin.1, hfin.2, RdS.of_row hrow4, ?_⟩
          exact HBW.out.trans (HB4.out.mono HBW.out.size)
      · rw [hb] at hcall
        have HLB := hid hb
        clear hb
        go_wp2_with fail
        refine hcall.mono ?_
        rintro e w' ⟨rfl, j, hw'⟩
        have HW' := hid hw'
        clear hw'
        go_wp2
        go_roundw
        case rel =>
          refine ⟨k + 1, n + j, by omega, by go_num, by rw [HW'.out, HWR.out]; simp, fun y hy => ?_⟩
          rcases (mem_take_succ HX.out y).1 hy with hy | rfl
          · exact HP.out y hy
          · exact HLB.out
        case measure => simp [intOf]; omega
    · obtain ⟨w', hw'⟩ : ∃ w', w' = wr := ⟨_, rfl⟩
      have HRd : Hid (RdS w' g xs) := by rw [hw']; exact HRw.out
      have HBW : Hid (Below w.heap.size w w') := by rw [hw']; exact HBw.out
      have HHI : Hid (∀ a, xs[k]? = some a → ltB a key = false ∧ a ≠ key) := fun a ha => absurd (List.getElem?_eq_some_iff.1 ha).1 hlt
      clear HWR HRw HBw
      subst hw'
      have HLO : Hid (∀ x ∈ xs.take k, ltB x key = true) := HP
      obtain ⟨off, hsl, hoff⟩ := run_tail g xs.length cap k hk hcap
      have HOF := hid hoff
      have hsh := run_head g xs.length cap k (by omega)
      clear hoff
      go_wp2_with (first
        | (at_make; refine wpList_make_own _ rfl _ _ 23 rfl w'.heap.size 9 i0 (.string ⟨#[]⟩) 1 Try.underlying23 hi hz0 hz1 _ _ _ (xs.length + 1) rfl rfl (by first | rfl | go_num | (simp; omega)) (by rw [hz2]; omega) (by unfold maxLen; omega) (Nat.le_refl _) ?_
           intro w1 hrow1 hg1
           have hB1 : Below w'.heap.size w' w1 := (Below.refl _ _).grown hg1 (Nat.le_refl _) (fun j hj => by cases hj)
           have HR1 : Hid (RdS w1 g xs) := HRd.out.below hB1
           have HB1 := hid hB1
           have HO1 := hid hrow1
           clear hB1 hg1 hrow1)
        | (at_builtin; refine wpList_append_own _ rfl _ _ 23 rfl w'.heap.size 9 i0 (.string ⟨#[]⟩) 1 16 Try.underlying23 hi hz0 hz1 hz2 rfl (by decide) _ _ _ rfl HO3.out ⟨g, off, none⟩ (xs.length - k) (cap - k) (strs (xs.drop k)) rfl (by rw [strs_length]; simp) (fun j u hu => ?_) (strs_one _) (by unfold maxLen; omega) (by omega) HB3.out.size ?_
           · obtain ⟨y, hy, rfl⟩ := strs_get hu
             rw [List.getElem?_drop] at hy
             have hlt3 := (List.getElem?_eq_some_iff.1 hy).1
             rw [Addr.add_lit, HOF.out (by omega)]
             exact HR3.out.2 _ y hy
           intro v4 w4 hown4 hg4 hnil4
           have hB4 : Below w'.heap.size w' w4 := HB3.out.grown hg4 HB3.out.size (fun j hj => (HO3.out.lt j hj).1)
           have HN4 : Hid (v4 ≠ .slice none 0 0) := fun hv => HN3.out (hnil4.1 hv).1
           have HB4 := hid hB4
           have HO4 := hid hown4
           clear hB4 hg4 hown4 hnil4
           go_frame)
        | (at_builtin; refine wpList_append_own _ rfl _ _ 23 rfl w'.heap.size 9 i0 (.string ⟨#[]⟩) 1 16 Try.underlying23 hi hz0 hz1 hz2 rfl (by decide) _ _ _ rfl (HO2.out.alloc _) ⟨w2.heap.size, 0, none⟩ 1 1 [.string key] rfl rfl (cell_one_new _ _ _) (by simp [Value.oneCell']) (by unfold maxLen; omega) (by omega) (by have := HB2.out.size; simp; omega) ?_
           intro v3 w3 hown3 hg3 hnil3
           have hB3 : Below w'.heap.size w' w3 := (HB2.out.alloc HB2.out.size _).grown hg3 (by have := HB2.out.size; simp; omega) (fun j hj => (HO2.out.lt j hj).1)
           have HR3 : Hid (RdS w3 g xs) := HRd.out.below hB3
           have HN3 : Hid (v3 ≠ .slice none 0 0) := fun hv => HN2.out (hnil3.1 hv).1
           have HB3 := hid hB3
           have HO3 := hid hown3
           clear hB3 hg3 hown3 hnil3
           go_frame)
        | (at_builtin; refine wpList_append_own _ rfl _ _ 23 rfl w'.heap.size 9 i0 (.string ⟨#[]⟩) 1 16 Try.underlying23 hi hz0 hz1 hz2 rfl (by decide) _ _ _ rfl HO1.out ⟨g, 0, none⟩ k cap (strs (xs.take k)) rfl (by rw [strs_length]; simp; omega) (fun j u hu => ?_) (strs_one _) (by unfold maxLen; omega) (by omega) HB1.out.size ?_
           · obtain ⟨y, hy, rfl⟩ := strs_get hu
             rw [Addr.add_lit, Nat.zero_add]
             exact HR1.out.2 j y (by rw [List.getElem?_take] at hy; split at hy <;> first | exact hy | cases hy)
           intro v2 w2 hown2 hg2 hnil2
           have hB2 : Below w'.heap.size w' w2 := HB1.out.grown hg2 HB1.out.size (fun j hj => (HO1.out.lt j hj).1)
           have HR2 : Hid (RdS w2 g xs) := HRd.out.below hB2
           have HN2 : Hid (v2 ≠ .slice none 0 0) := fun hv => by cases (hnil2.1 hv).1
           have HB2 := hid hB2
           have HO2 := hid hown2
           clear hB2 hg2 hown2 hnil2
           go_frame))
      go_ret
      have hfin : Srt (xs.take k ++ [key] ++ xs.drop k) ∧ ∀ x, x ∈ xs.take k ++ [key] ++ xs.drop k ↔ x ∈ xs ∨ x = key := take_ins HS.out hk HLO.out HHI.out
      have hrow4 := HO4.out
      rw [show ([] ++ strs (xs.take k) ++ [Value.string key] ++ strs (xs.drop k)) = (xs.take k ++ [key] ++ xs.drop k).map Value.string by simp [strs]] at hrow4
      rw [show 0 + k + 1 + (xs.length - k) = (xs.take k ++ [key] ++ xs.drop k).length by simp; omega] at hrow4
      rcases hrow4.2 with ⟨hv, _⟩ | ⟨g4, cap4, cur4, hv, hbase, _⟩
      · exact absurd hv HN4.out
      subst hv
      refine ⟨g4, cap4, _, rfl, hfin.1, hfin.2, RdS.of_row hrow4, ?_⟩
      exact HBW.out.trans (HB4.out.mono HBW.out.size)

end Go.Proofs.Qxb6615552a
