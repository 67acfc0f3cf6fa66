/-
  THE WALK of FnAtLineEndStopsAtEachLineFeedAndTheEnd.
-/
import Derived.Test.Qxb6615552aScan
namespace Go.Proofs.Qxb6615552a
open Go.RowKit
set_option maxRecDepth 100000

theorem info5 : (Try.prog.info? 5).map (fun i => (i.zero, i.size, i.bytes)) = some (some (.int .u8 0), 1, 1) := by kernel_rfl
theorem size5 : (Try.prog.info? 5).map (·.size) = some 1 := by kernel_rfl
def u8s (xs : List Int) : List Value := xs.map (Value.int .u8)
@[simp] theorem u8s_length (xs : List Int) : (u8s xs).length = xs.length := by simp [u8s]
theorem u8s_get (xs : List Int) (i : Nat) (h : i < xs.length) : (u8s xs)[i]? = some (.int .u8 (xs.getD i 0)) := by simp [u8s, h]

/-- The bytes are copied into the row that was just made. -/
theorem run_copy_b {w w1 : World} {a : Option Addr} {c : Nat} {xs : List Int} (hown : w1.ownsRow 0 5 1 (.slice (some ⟨w.heap.size, 0, none⟩) xs.length xs.length) xs.length (madeCells #[Value.int .u8 0] xs.length).toList) (hg : w.grownBy w1 none)
    (hr : RdB w (.slice a xs.length c) xs) (ty : TypeId) :
    ∃ w2, (Builtin.copy_ #[33, 33] ty #[.slice (some ⟨w.heap.size, 0, none⟩) xs.length xs.length, .slice a xs.length c]).run Try.prog w1 = .ok (goInt xs.length) w2 ∧
      RdB w2 (.slice (some ⟨w.heap.size, 0, none⟩) xs.length xs.length) xs ∧ Below w.heap.size w w2 := by
  have hb1 : Below w.heap.size w w1 := (Below.refl _ _).grown hg (Nat.le_refl _) (fun k hk => by cases hk)
  obtain ⟨a', cap', hv, h0, hm, hc⟩ := hr
  obtain ⟨rfl, rfl⟩ : a = a' ∧ c = cap' := by cases hv; exact ⟨rfl, rfl⟩
  by_cases hx : xs.length = 0
  · have : xs = [] := List.eq_nil_of_length_eq_zero hx
    subst this
    refine ⟨w1, ?_, ⟨some ⟨w.heap.size, 0, none⟩, 0, rfl, (fun h => by cases h), Nat.zero_le _, fun h => by simp at h⟩, hb1⟩
    have := run_copy_none (P := Try.prog) w1 33 33 ty 5 (some ⟨w.heap.size, 0, none⟩) a ([] : List Int).length ([] : List Int).length ([] : List Int).length c Try.underlying33 size5 (by simp)
    simpa using this
  · obtain ⟨b, off, rfl, hcell⟩ := hc (by omega)
    rcases hown.2 with ⟨hv', _⟩ | ⟨g', cap', cur, hv', _, hgg, hnc, hcm, hcs, htake⟩
    · cases hv'
    · cases hv'
      have hsz : cur.size = xs.length := by omega
      have hrun := run_copy_row (P := Try.prog) w1 33 33 ty 5 w.heap.size 0 xs.length xs.length ⟨b, off, none⟩ xs.length c cur 5 (u8s xs) Try.underlying33 size5 hgg (by rw [u8s_length]; exact (Nat.min_self _).symm)
        (fun j u hu => by
          have hj : j < xs.length := by simpa using (List.getElem?_eq_some_iff.1 hu).1
          rw [u8s_get xs j hj] at hu
          have := hcell j hj
          rw [Addr.add_lit, hb1.cell (p := ⟨b, off + j, none⟩) (World.block_lt_of_cell? w _ this), this, hu]) (by simp; omega) (ints_oneCell _ _)
      rw [u8s_length] at hrun
      have hdrop : cur.toList.drop (0 + xs.length) = [] := List.drop_eq_nil_of_le (by simp; omega)
      rw [hdrop] at hrun
      simp only [List.take_zero, List.nil_append, List.append_nil] at hrun
      refine ⟨_, hrun, ⟨some ⟨w.heap.size, 0, none⟩, xs.length, rfl, (fun h => by cases h), by simpa using hm, fun _ => ⟨w.heap.size, 0, rfl, fun i hi => ?_⟩⟩, below_setRow hb1 (Nat.le_refl _) _⟩
      rw [Nat.zero_add, cell_of_row _ w.heap.size i _ 5 (0, 0) (setRow_heap w1 w.heap.size cur _ 5 _ hgg)]
      have := u8s_get xs i hi
      simpa using this

/-- Line feeds. -/
def cnt : List Int → Nat
  | [] => 0
  | x :: r => (if (x == 10) = true then 1 else 0) + cnt r
theorem cnt_snoc (l : List Int) (x : Int) : cnt (l ++ [x]) = cnt l + if (x == 10) = true then 1 else 0 := by
  induction l with
  | nil => simp [cnt]
  | cons y l ih => simp only [List.cons_append, cnt, ih]; omega
theorem cnt_le (l : List Int) : cnt l ≤ l.length := by
  induction l with
  | nil => simp [cnt]
  | cons y l ih => simp only [cnt, List.length_cons]; split <;> omega
theorem cnt_step (xs : List Int) (k : Nat) (h : k < xs.length) : cnt (xs.take (k + 1)) = cnt (xs.take k) + if (xs.getD k 0 == 10) = true then 1 else 0 := by
  rw [List.take_succ_eq_append_getElem h, cnt_snoc]
  simp [h]
/-- Line ends among the first k places. -/
def stp (xs : List Int) (k : Nat) : Nat := cnt (xs.take k) + if xs.length < k then 1 else 0
theorem stp_zero (xs : List Int) : stp xs 0 = 0 := by simp [stp, cnt]
theorem stp_all (xs : List Int) : stp xs (xs.length + 1) = cnt xs + 1 := by
  unfold stp
  rw [List.take_of_length_le (by omega), if_pos (by omega)]
theorem stp_step (xs : List Int) (k : Nat) (h : k ≤ xs.length) : stp xs (k + 1) = stp xs k + if lineEnd xs k = true then 1 else 0 := by
  unfold stp lineEnd
  by_cases hk : k < xs.length
  · rw [cnt_step xs k hk]
    have e1 : ¬ xs.length < k + 1 := by omega
    have e2 : ¬ xs.length < k := by omega
    simp only [e1, e2, hk, if_true, if_false, Nat.add_zero]
  · have : k = xs.length := by omega
    subst this
    have e1 : xs.length < xs.length + 1 := by omega
    have e2 : ¬ xs.length < xs.length := by omega
    rw [List.take_of_length_le (show xs.length ≤ xs.length + 1 by omega), List.take_of_length_le (Nat.le_refl _)]
    simp only [e1, e2, if_true, if_false, Nat.add_zero]
theorem stp_le (xs : List Int) (k : Nat) : stp xs k ≤ xs.length + 1 := by
  unfold stp
  have h1 := cnt_le (xs.take k)
  have h2 := List.length_take_le k xs
  have : (xs.take k).length ≤ xs.length := by simp; omega
  split <;> omega

set_option maxHeartbeats 4000000 in
theorem line_walk (nm : ByteArray) (v1 : Value) (xs : List Int) (pi ln ls : Int) (w : World) (h0 : nm.size ≤ maxLen) (h1 : RdB w v1 xs) :
    Calls Try.prog 5 #[.string nm, v1, .int .i64 pi, .int .i64 ln, .int .i64 ls] w fun e w' => e = .returned (.bool true) ∧ Below w.heap.size w w' := by
  have H1 := hid h1
  obtain ⟨a, c, rfl, hz, hm1, -⟩ := h1
  have hne := fun w => run_neq_slice_nil_any (P := Try.prog) w 33 5 a xs.length c 0 0 Try.underlying33
  have hm0' := h0
  have hm1' := hm1
  unfold maxLen at h0 hm1
  obtain ⟨i0, hi, hz0, hz1, hz2⟩ := info_parts info5
  go_enter Try.func5, Try.ntmps5
  go_wp2_with fail
  refine (zz12 nm a xs.length c pi ln ls w hm0' hm1').mono ?_
  rintro e w' ⟨⟨b, rfl⟩, hw⟩
  subst w'
  cases b
  · go_wp2
    go_ret
    exact ⟨rfl, Below.refl _ _⟩
  by_cases ht : nm.size ≤ 1048576 ∧ xs.length ≤ 65536 ∧ 0 ≤ pi ∧ pi ≤ xs.length
  · obtain ⟨ht1, ht2, ht3, ht4⟩ := ht
    obtain ⟨p, rfl⟩ : ∃ p : Nat, pi = (p : Int) := ⟨pi.toNat, by omega⟩
    have hpl : p ≤ xs.length := by omega
    cases a with
    | none =>
      obtain ⟨hxs, rfl⟩ := hz rfl
      have HX0 := hid hxs
      have HRd : Hid (RdB w (.slice none xs.length 0) xs) := H1
      have HBW : Hid (Below w.heap.size w w) := Below.refl _ _
      clear hxs hz
      go_wp2
      go_loop [12, 13] (fun f i => ∃ k : Nat, k ≤ xs.length ∧ i = .int .i64 k ∧ f = .int .i64 (cnt (xs.take k))) (fun _ i => xs.length - (intOf i).toNat)
      case atStart => exact ⟨0, Nat.zero_le _, rfl, rfl⟩
      case round =>
        obtain ⟨k, hk, rfl, rfl⟩ := hrel
        have hcl := cnt_le (xs.take k)
        have hlt0 := List.length_take_le k xs
        by_cases hlt : k < xs.length
        · rw [HX0.out] at hlt; simp at hlt
        · obtain rfl : k = xs.length := by omega
          rw [List.take_of_length_le (Nat.le_refl _)] at *
          clear hlt0 hk hlt
          go_wp2
          go_loopw [14, 15] (fun s p wr => ∃ k : Nat, k ≤ xs.length + 1 ∧ p = .int .i64 k ∧ s = .int .i64 (stp xs k) ∧ Below w.heap.size w wr) (fun _ p _ => xs.length + 1 - (intOf p).toNat)
          case atStart => exact ⟨0, Nat.zero_le _, rfl, by rw [stp_zero]; rfl, Below.refl _ _⟩
          case round =>
            obtain ⟨k, hk, rfl, rfl, hB⟩ := hrel
            have hsl := stp_le xs k
            by_cases hlt : k ≤ xs.length
            · have hst := stp_step xs k hlt
              have hkl : (k : Int) ≤ (xs.length : Int) := by omega
              have HST := hid hst
              have HB := hid hB
              clear hst hB
              go_wp2_with fail
              refine (newScanner_c nm none xs.length 0 k ln ls wr).mono ?_
              rintro e w2 ⟨rfl, hw2⟩
              subst w2
              have hB2 : Below w.heap.size w (wr.alloc (.cells #[.string nm, .slice none xs.length 0, .int .i64 k, .int .i64 ln, .int .i64 ls] 46)) := HB.out.alloc HB.out.size _
              have HAT := hid (atEnd_c wr.heap.size xs.length 0 k none xs _ rfl hlt (by omega) (by simp) (by simp) (HRd.out.below hB2 (Nat.le_refl _)))
              have HB2 := hid hB2
              clear hB2
              go_wp2_with fail
              refine HAT.out.mono ?_
              rintro e w3 ⟨rfl, j3, hw3⟩
              subst w3
              have HB3 : Hid (Below w.heap.size w ((wr.alloc (.cells #[.string nm, .slice none xs.length 0, .int .i64 k, .int .i64 ln, .int .i64 ls] 46)).drewN j3)) := ⟨HB2.out.os, HB2.out.tape, HB2.out.output, HB2.out.size, HB2.out.block⟩
              by_cases hkn : k < xs.length
              · rw [HX0.out] at hkn; simp at hkn
              · have hle : lineEnd xs k = true := by unfold lineEnd; rw [if_neg hkn]
                rw [hle]
                rw [hle] at HST
                have hkne : ((k : Int) != (xs.length : Int)) = false := by simp; omega
                go_wp2
                go_roundw
                case rel => exact ⟨k + 1, by omega, by go_num, by rw [HST.out]; go_num, HB3.out⟩
                case measure => simp [intOf]; omega
            · obtain rfl : k = xs.length + 1 := by omega
              have HB := hid hB
              have hall := stp_all xs
              have HALL := hid hall
              clear hB hall
              go_wp2_with fail
              refine (newScanner_c nm none xs.length 0 p ln ls wr).mono ?_
              rintro e w2 ⟨rfl, hw2⟩
              subst w2
              have hB2 : Below w.heap.size w (wr.alloc (.cells #[.string nm, .slice none xs.length 0, .int .i64 p, .int .i64 ln, .int .i64 ls] 46)) := HB.out.alloc HB.out.size _
              have HAT := hid (atEnd_c wr.heap.size xs.length 0 p none xs _ rfl hpl (by omega) (by simp) (by simp) (HRd.out.below hB2 (Nat.le_refl _)))
              have HB2 := hid hB2
              clear hB2
              go_wp2_with fail
              refine HAT.out.mono ?_
              rintro e w3 ⟨rfl, j3, hw3⟩
              obtain ⟨W3, hW3⟩ : ∃ W3, W3 = (wr.alloc (.cells #[.string nm, .slice none xs.length 0, .int .i64 p, .int .i64 ln, .int .i64 ls] 46)).drewN j3 := ⟨_, rfl⟩
              rw [← hW3] at hw3
              subst w3
              have hB3 : Below w.heap.size w W3 := by rw [hW3]; exact ⟨HB2.out.os, HB2.out.tape, HB2.out.output, HB2.out.size, HB2.out.block⟩
              have HB3 := hid hB3
              clear hB3 hW3
              go_wp2_with fail
              refine (newScanner_c _ none xs.length 0 p 1 0 W3).mono ?_
              rintro e w4 ⟨rfl, hw4⟩
              subst w4
              have hB4 := fun o => HB3.out.alloc HB3.out.size o
              have HAT4 := hid (atEnd_c W3.heap.size xs.length 0 p none xs (W3.alloc (.cells #[.string ByteArray.empty, .slice none xs.length 0, .int .i64 p, .int .i64 1, .int .i64 0] 46)) rfl hpl (by omega) (by simp) (by simp) (HRd.out.below (hB4 _) (Nat.le_refl _)))
              have HB4 := hid (hB4 (.cells #[.string ByteArray.empty, .slice none xs.length 0, .int .i64 p, .int .i64 1, .int .i64 0] 46))
              clear hB4
              go_wp2_with fail
              refine HAT4.out.mono ?_
              rintro e w5 ⟨rfl, j5, hw5⟩
              subst w5
              rw [HALL.out]
              generalize lineEnd xs p = bq
              go_wp2
              all_goals (go_ret; refine ⟨?_, HBW.out.trans (Below.mono (B := w.heap.size) ⟨HB4.out.os, HB4.out.tape, HB4.out.output, HB4.out.size, HB4.out.block⟩ HBW.out.size)⟩)
              all_goals simp
    | some a =>
      go_wp2_with (at_make; refine wpList_make_full _ rfl _ _ 33 rfl 0 5 i0 (.int .u8 0) 1 Try.underlying33 hi hz0 hz1 _ _ _ _ xs.length rfl rfl rfl rfl (by rw [hz2]; omega) (by unfold maxLen; omega) (Nat.zero_le _) ?_)
      intro w1 hown hgrow
      have hown' : w1.ownsRow 0 5 1 (.slice (some ⟨w.heap.size, 0, none⟩) xs.length xs.length) xs.length (madeCells #[Value.int IntKind.u8 0] xs.length).toList := by simpa using hown
      obtain ⟨W, hcopy, hRd, hBW⟩ := run_copy_b hown' hgrow H1.out 3
      have HRd := hid hRd
      have HBW := hid hBW
      clear hown hown' hgrow hRd hBW
      go_wp2
      go_loop [12, 13] (fun f i => ∃ k : Nat, k ≤ xs.length ∧ i = .int .i64 k ∧ f = .int .i64 (cnt (xs.take k))) (fun _ i => xs.length - (intOf i).toNat)
      case atStart => exact ⟨0, Nat.zero_le _, rfl, rfl⟩
      case round =>
        obtain ⟨k, hk, rfl, rfl⟩ := hrel
        have hcl := cnt_le (xs.take k)
        have hlt0 := List.length_take_le k xs
        by_cases hlt : k < xs.length
        · obtain ⟨a', c', hv, _, _, hc⟩ := HRd.out
          obtain ⟨b, off, hb, hcell⟩ := hc (by omega)
          have hst := cnt_step xs k hlt
          have hu := hcell k hlt
          generalize xs.getD k 0 = x at hu hst
          have HS := hid hst
          obtain ⟨rfl, rfl⟩ : w.heap.size = b ∧ off = 0 := by cases hv; cases hb; exact ⟨rfl, rfl⟩
          rw [Nat.zero_add] at hu
          have hkl : (k : Int) < (xs.length : Int) := by omega
          clear hc hcell hv hst hb
          rcases hxb : (x == 10) with _ | _
          all_goals
            go_wp2
            go_round
            case rel => exact ⟨k + 1, by omega, by go_num, by rw [HS.out, hxb]; go_num⟩
            case measure => simp [intOf]; omega
        · obtain rfl : k = xs.length := by omega
          rw [List.take_of_length_le (Nat.le_refl _)] at *
          clear hlt0 hk hlt
          go_wp2
          go_loopw [14, 15] (fun s p wr => ∃ k : Nat, k ≤ xs.length + 1 ∧ p = .int .i64 k ∧ s = .int .i64 (stp xs k) ∧ Below W.heap.size W wr) (fun _ p _ => xs.length + 1 - (intOf p).toNat)
          case atStart => exact ⟨0, Nat.zero_le _, rfl, by rw [stp_zero]; rfl, Below.refl _ _⟩
          case round =>
            obtain ⟨k, hk, rfl, rfl, hB⟩ := hrel
            have hsl := stp_le xs k
            by_cases hlt : k ≤ xs.length
            · have hst := stp_step xs k hlt
              have hkl : (k : Int) ≤ (xs.length : Int) := by omega
              have HST := hid hst
              have HB := hid hB
              clear hst hB
              go_wp2_with fail
              refine (newScanner_c nm (some ⟨w.heap.size, 0, none⟩) xs.length xs.length k ln ls wr).mono ?_
              rintro e w2 ⟨rfl, hw2⟩
              subst w2
              have hB2 : Below W.heap.size W (wr.alloc (.cells #[.string nm, .slice (some ⟨w.heap.size, 0, none⟩) xs.length xs.length, .int .i64 k, .int .i64 ln, .int .i64 ls] 46)) := HB.out.alloc HB.out.size _
              have HAT := hid (atEnd_c wr.heap.size xs.length xs.length k (some ⟨w.heap.size, 0, none⟩) xs _ rfl hlt (by omega) (by simp) (by simp) (HRd.out.below hB2 (Nat.le_refl _)))
              have HB2 := hid hB2
              clear hB2
              go_wp2_with fail
              refine HAT.out.mono ?_
              rintro e w3 ⟨rfl, j3, hw3⟩
              subst w3
              have HB3 : Hid (Below W.heap.size W ((wr.alloc (.cells #[.string nm, .slice (some ⟨w.heap.size, 0, none⟩) xs.length xs.length, .int .i64 k, .int .i64 ln, .int .i64 ls] 46)).drewN j3)) := ⟨HB2.out.os, HB2.out.tape, HB2.out.output, HB2.out.size, HB2.out.block⟩
              by_cases hkn : k < xs.length
              · obtain ⟨a', c', hv, _, _, hc⟩ := HRd.out.below HB3.out (Nat.le_refl _)
                obtain ⟨b, off, hb, hcell⟩ := hc (by omega)
                have hu := hcell k hkn
                have hle : lineEnd xs k = (xs.getD k 0 == 10) := by unfold lineEnd; rw [if_pos hkn]
                rw [hle]
                rw [hle] at HST
                generalize xs.getD k 0 = x at hu HST
                obtain ⟨rfl, rfl⟩ : w.heap.size = b ∧ off = 0 := by cases hv; cases hb; exact ⟨rfl, rfl⟩
                rw [Nat.zero_add] at hu
                have hkn' : (k : Int) < (xs.length : Int) := by omega
                have hkne : ((k : Int) != (xs.length : Int)) = true := by simp; omega
                clear hc hcell hv hb hle
                rcases hxb : (x == 10) with _ | _
                · go_wp2
                  go_roundw
                  case rel => exact ⟨k + 1, by omega, by go_num, by rw [HST.out, hxb]; go_num, HB3.out⟩
                  case measure => simp [intOf]; omega
                · have hxn : (x != 10) = false := by simp only [bne, hxb]; rfl
                  go_wp2
                  go_roundw
                  case rel => exact ⟨k + 1, by omega, by go_num, by rw [HST.out, hxb]; go_num, HB3.out⟩
                  case measure => simp [intOf]; omega
              · have hle : lineEnd xs k = true := by unfold lineEnd; rw [if_neg hkn]
                rw [hle]
                rw [hle] at HST
                have hkne : ((k : Int) != (xs.length : Int)) = false := by simp; omega
                go_wp2
                go_roundw
                case rel => exact ⟨k + 1, by omega, by go_num, by rw [HST.out]; go_num, HB3.out⟩
                case measure => simp [intOf]; omega
            · obtain rfl : k = xs.length + 1 := by omega
              have HB := hid hB
              have hall := stp_all xs
              have HALL := hid hall
              clear hB hall
              go_wp2_with fail
              refine (newScanner_c nm (some ⟨w.heap.size, 0, none⟩) xs.length xs.length p ln ls wr).mono ?_
              rintro e w2 ⟨rfl, hw2⟩
              subst w2
              have hB2 : Below W.heap.size W (wr.alloc (.cells #[.string nm, .slice (some ⟨w.heap.size, 0, none⟩) xs.length xs.length, .int .i64 p, .int .i64 ln, .int .i64 ls] 46)) := HB.out.alloc HB.out.size _
              have HAT := hid (atEnd_c wr.heap.size xs.length xs.length p (some ⟨w.heap.size, 0, none⟩) xs _ rfl hpl (by omega) (by simp) (by simp) (HRd.out.below hB2 (Nat.le_refl _)))
              have HB2 := hid hB2
              clear hB2
              go_wp2_with fail
              refine HAT.out.mono ?_
              rintro e w3 ⟨rfl, j3, hw3⟩
              obtain ⟨W3, hW3⟩ : ∃ W3, W3 = (wr.alloc (.cells #[.string nm, .slice (some ⟨w.heap.size, 0, none⟩) xs.length xs.length, .int .i64 p, .int .i64 ln, .int .i64 ls] 46)).drewN j3 := ⟨_, rfl⟩
              rw [← hW3] at hw3
              subst w3
              have hB3 : Below W.heap.size W W3 := by rw [hW3]; exact ⟨HB2.out.os, HB2.out.tape, HB2.out.output, HB2.out.size, HB2.out.block⟩
              have HB3 := hid hB3
              clear hB3 hW3
              go_wp2_with fail
              refine (newScanner_c _ (some ⟨w.heap.size, 0, none⟩) xs.length xs.length p 1 0 W3).mono ?_
              rintro e w4 ⟨rfl, hw4⟩
              subst w4
              have hB4 := fun o => HB3.out.alloc HB3.out.size o
              have HAT4 := hid (atEnd_c W3.heap.size xs.length xs.length p (some ⟨w.heap.size, 0, none⟩) xs (W3.alloc (.cells #[.string ByteArray.empty, .slice (some ⟨w.heap.size, 0, none⟩) xs.length xs.length, .int .i64 p, .int .i64 1, .int .i64 0] 46)) rfl hpl (by omega) (by simp) (by simp) (HRd.out.below (hB4 _) (Nat.le_refl _)))
              have HB4 := hid (hB4 (.cells #[.string ByteArray.empty, .slice (some ⟨w.heap.size, 0, none⟩) xs.length xs.length, .int .i64 p, .int .i64 1, .int .i64 0] 46))
              clear hB4
              go_wp2_with fail
              refine HAT4.out.mono ?_
              rintro e w5 ⟨rfl, j5, hw5⟩
              subst w5
              rw [HALL.out]
              generalize lineEnd xs p = bq
              go_wp2
              all_goals (go_ret; refine ⟨?_, HBW.out.trans (Below.mono (B := W.heap.size) ⟨HB4.out.os, HB4.out.tape, HB4.out.output, HB4.out.size, HB4.out.block⟩ HBW.out.size)⟩)
              all_goals simp
  · go_wp2_with fail
    all_goals (go_ret; exact ⟨rfl, Below.refl _ _⟩)

end Go.Proofs.Qxb6615552a
