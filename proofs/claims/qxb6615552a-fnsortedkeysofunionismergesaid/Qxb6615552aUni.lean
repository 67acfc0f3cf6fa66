/-
  THE WALK of FnSortedKeysOfUnionIsMerge.
-/
import Derived.Test.Qxb6615552aIns
import Derived.Test.Qxb6615552aMerge
namespace Go.Proofs.Qxb6615552a
open Go.RowKit Go.Maps
open Go.RowKit (Below)
set_option maxRecDepth 100000

theorem mem_app_succ {zs xs : List ByteArray} {i : Nat} {a : ByteArray} (ha : xs[i]? = some a) (x : ByteArray) : x ∈ zs ++ xs.take (i + 1) ↔ x ∈ zs ++ xs.take i ∨ x = a := by
  rw [List.mem_append, List.mem_append, mem_take_succ ha, or_assoc]

set_option maxHeartbeats 4000000 in
theorem uni_walk (a a2 : Option Nat) (ks kt : ByteArray → Bool) (n m : Nat) (w : World) (hM : MapIs w a ks n) (hM' : MapIs w a2 kt m) (hnm : n ≤ maxLen) (hmm : m ≤ maxLen) :
    Calls Try.prog 4 #[.map a, .map a2] w fun e w' => e = .returned (.bool true) ∧ Below w.heap.size w w' := by
  have hlen := hM.len
  have hlen' := hM'.len
  have HM := hid hM
  have HN := hid hM'
  unfold maxLen at hnm hmm
  clear hM hM'
  go_enter Try.func4, Try.ntmps4
  by_cases ht : n ≤ 65536 ∧ m ≤ 65536
  · obtain ⟨ht1, ht2⟩ := ht
    go_wp2_with fail
    refine (newResult_c a w).mono ?_
    rintro e w1 ⟨rfl, o, hw1, hc1⟩
    have HB1 : Hid (Below w.heap.size w w1) := by rw [hw1]; exact (Below.refl _ _).alloc (Nat.le_refl _) _
    have HM1 : Hid (MapIs w1 a ks n) := HM.out.below HB1.out
    have HC1 := hid hc1
    clear hw1 hc1
    go_wp2_with fail
    refine (zzSortedKeys_c w.heap.size a ks n w1 HC1.out HM1.out (by omega)).mono ?_
    rintro e w2 ⟨g, cap, ts, rfl, hko⟩
    have HKO := hid hko
    have HB2 : Hid (Below w.heap.size w w2) := HB1.out.trans (hko.below.mono HB1.out.size)
    have HM2 : Hid (MapIs w2 a ks n) := HM.out.below HB2.out
    have htl : ts.length ≤ 65536 := by rw [hko.len]; exact ht1
    clear hko
    go_wp2_with fail
    refine (isKeySet_c g cap ts a ks w2 (by omega) HKO.out.rd (by rw [HKO.out.len]; exact HM2.out) HKO.out.srt HKO.out.small (fun x hx => (HKO.out.mem x).1 hx)).mono ?_
    rintro e w3 ⟨rfl, j, hw3⟩
    have HB3 : Hid (Below w.heap.size w w3) := by rw [hw3]; exact ⟨HB2.out.os, HB2.out.tape, HB2.out.output, HB2.out.size, HB2.out.block⟩
    have HR3 : Hid (RdS w3 g ts) := by rw [hw3]; exact HKO.out.rd
    clear hw3
    go_wp2_with fail
    refine (newResult_c a2 w3).mono ?_
    rintro e w4 ⟨rfl, o4, hw4, hc4⟩
    have HB4a : Hid (Below w3.heap.size w3 w4) := by rw [hw4]; exact (Below.refl _ _).alloc (Nat.le_refl _) _
    have HB4 : Hid (Below w.heap.size w w4) := HB3.out.trans (HB4a.out.mono HB3.out.size)
    have HR4 : Hid (RdS w4 g ts) := HR3.out.below HB4a.out
    have HN4 : Hid (MapIs w4 a2 kt m) := HN.out.below HB4.out
    have HC4 := hid hc4
    clear hw4 hc4
    go_wp2_with fail
    refine (zzSortedKeys_c w3.heap.size a2 kt m w4 HC4.out HN4.out (by omega)).mono ?_
    rintro e w5 ⟨g5, cap5, us, rfl, hko5⟩
    have HKP := hid hko5
    have HB5 : Hid (Below w.heap.size w w5) := HB4.out.trans (hko5.below.mono HB4.out.size)
    have HR5 : Hid (RdS w5 g ts) := HR4.out.below hko5.below
    have HN5 : Hid (MapIs w5 a2 kt m) := HN.out.below HB5.out
    have hul : us.length ≤ 65536 := by rw [hko5.len]; exact ht2
    clear hko5
    go_wp2_with fail
    refine (isKeySet_c g5 cap5 us a2 kt w5 (by omega) HKP.out.rd (by rw [HKP.out.len]; exact HN5.out) HKP.out.srt HKP.out.small (fun x hx => (HKP.out.mem x).1 hx)).mono ?_
    rintro e w6 ⟨rfl, j6, hw6⟩
    have HB6 : Hid (Below w.heap.size w w6) := by rw [hw6]; exact ⟨HB5.out.os, HB5.out.tape, HB5.out.output, HB5.out.size, HB5.out.block⟩
    have HM6 : Hid (MapIs w6 a ks n) := HM.out.below HB6.out
    have HN6 : Hid (MapIs w6 a2 kt m) := HN.out.below HB6.out
    have HR6 : Hid (RdS w6 g ts) := by rw [hw6]; exact HR5.out
    have HU6 : Hid (RdS w6 g5 us) := by rw [hw6]; exact HKP.out.rd
    clear hw6
    have hmk := run_makeMap22
    go_wp2
    go_loopw [8] (fun i wr => ∃ q : Nat, q ≤ ts.length ∧ i = .int .i64 q ∧ Hid (Grown wr w6.heap.size q (ts.take q)) ∧ Hid (Below w6.heap.size w6 wr)) (fun i _ => ts.length - (intOf i).toNat)
    case atStart => exact ⟨0, Nat.zero_le _, rfl, Grown.made w6, (Below.refl _ _).alloc (Nat.le_refl _) _⟩
    case round =>
      obtain ⟨q, hq, rfl, HG, HBr⟩ := hrel
      have HMr : Hid (MapIs wr a ks n) := HM6.out.below HBr.out
      have HRr : Hid (RdS wr g ts) := HR6.out.below HBr.out
      by_cases hlt : q < ts.length
      · obtain ⟨x, hx⟩ := sat hlt
        have hxm : x ∈ ts := List.mem_of_getElem? hx
        have hlt' : (q : Int) < (ts.length : Int) := by omega
        have hcx : wr.cell? ⟨g, q, none⟩ = some (.string x) := HRr.out.2 q x hx
        obtain ⟨s, w', hl, hu, hG, hg⟩ := HG.out.round (by unfold maxLen; omega) HMr.out (HKO.out.small x hxm) (mem_take_succ hx)
        have HG' := hid hG
        have HB' : Hid (Below w6.heap.size w6 w') := HBr.out.grown hg HBr.out.size (fun j hj => by cases hj; exact Nat.le_refl _)
        clear hG hg hx hxm
        go_wp2
        go_region
        all_goals
          go_wp2
          go_roundw
          case rel => exact ⟨q + 1, by omega, by go_num, HG', HB'⟩
          case measure => simp [intOf]; omega
      · obtain rfl : q = ts.length := by omega
        rw [List.take_length] at HG
        clear hlt hq
        go_wp2
        go_loopw [9] (fun i ws => ∃ q : Nat, q ≤ us.length ∧ i = .int .i64 q ∧ Hid (Grown ws w6.heap.size (ts.length + q) (ts ++ us.take q)) ∧ Hid (Below w6.heap.size w6 ws)) (fun i _ => us.length - (intOf i).toNat)
        case atStart => exact ⟨0, Nat.zero_le _, rfl, by simpa using HG, HBr⟩
        case round =>
          obtain ⟨q, hq, rfl, HGs, HBs⟩ := hrel
          have HNs : Hid (MapIs wr a2 kt m) := HN6.out.below HBs.out
          have HUs : Hid (RdS wr g5 us) := HU6.out.below HBs.out
          have HRs : Hid (RdS wr g ts) := HR6.out.below HBs.out
          by_cases hlt : q < us.length
          · obtain ⟨x, hx⟩ := sat hlt
            have hxm : x ∈ us := List.mem_of_getElem? hx
            have hlt' : (q : Int) < (us.length : Int) := by omega
            have hcx : wr.cell? ⟨g5, q, none⟩ = some (.string x) := HUs.out.2 q x hx
            obtain ⟨s, w', hl, hu, hG, hg⟩ := HGs.out.round (by unfold maxLen; omega) HNs.out (HKP.out.small x hxm) (mem_app_succ hx)
            have HG' : Hid (Grown w' w6.heap.size (ts.length + (q + 1)) (ts ++ us.take (q + 1))) := hG
            have HB' : Hid (Below w6.heap.size w6 w') := HBs.out.grown hg HBs.out.size (fun j hj => by cases hj; exact Nat.le_refl _)
            clear hG hg hx hxm
            go_wp2
            go_region
            all_goals
              go_wp2
              go_roundw
              case rel => exact ⟨q + 1, by omega, by go_num, HG', HB'⟩
              case measure => simp [intOf]; omega
          · obtain rfl : q = us.length := by omega
            rw [List.take_length] at HGs
            have HB7 : Hid (Below w.heap.size w wr) := HB6.out.trans (HBs.out.mono HB6.out.size)
            obtain ⟨ks7, n7, hM7, hn7, hk7⟩ := HGs.out.mapIs
            have HM7 := hid hM7
            have HKS7 := hid hk7
            clear hM7 hk7
            go_wp2_with fail
            refine (newResult_c (some w6.heap.size) wr).mono ?_
            rintro e w8 ⟨rfl, o8, hw8, hc8⟩
            have HB8a : Hid (Below wr.heap.size wr w8) := by rw [hw8]; exact (Below.refl _ _).alloc (Nat.le_refl _) _
            have HM8 : Hid (MapIs w8 (some w6.heap.size) ks7 n7) := HM7.out.below HB8a.out
            have HB8 : Hid (Below w.heap.size w w8) := HB7.out.trans (HB8a.out.mono HB7.out.size)
            have HR8 : Hid (RdS w8 g ts) := HRs.out.below HB8a.out
            have HU8 : Hid (RdS w8 g5 us) := HUs.out.below HB8a.out
            have HC8 := hid hc8
            clear hw8 hc8
            go_wp2_with fail
            refine (zzSortedKeys_c wr.heap.size (some w6.heap.size) ks7 n7 w8 HC8.out HM8.out (by omega)).mono ?_
            rintro e w9 ⟨g9, cap9, ts9, rfl, hko9⟩
            have HKO9 := hid hko9
            have HR9 : Hid (RdS w9 g ts) := HR8.out.below hko9.below
            have HU9 : Hid (RdS w9 g5 us) := HU8.out.below hko9.below
            have HB9 : Hid (Below w.heap.size w w9) := HB8.out.trans (hko9.below.mono HB8.out.size)
            have htl9 : ts9.length ≤ 131072 := by rw [hko9.len]; omega
            clear hko9
            go_wp2_with fail
            refine (merge_c g g5 cap cap5 ts us w9 (by omega) (by omega) HR9.out HU9.out HKO.out.srt HKP.out.srt HKO.out.small HKP.out.small).mono ?_
            rintro e w10 ⟨g10, cap10, ys, rfl, hsy, hmy, hry, hby⟩
            have hE : ts9 = ys := HKO9.out.srt.same hsy (fun x => by rw [HKO9.out.mem, HKS7.out, hmy, List.mem_append])
            subst hE
            have HRA := hid hry
            have HRB : Hid (RdS w10 g9 ts9) := HKO9.out.rd.below hby
            have HB10 : Hid (Below w.heap.size w w10) := HB9.out.trans (hby.mono HB9.out.size)
            clear hsy hmy hry hby
            go_wp2_with fail
            refine (equal_c g9 g10 cap9 cap10 ts9 w10 (by omega) HRB.out HRA.out).mono ?_
            rintro e w11 ⟨rfl, j11, hw11⟩
            have HB11 : Hid (Below w.heap.size w w11) := by rw [hw11]; exact ⟨HB10.out.os, HB10.out.tape, HB10.out.output, HB10.out.size, HB10.out.block⟩
            clear hw11
            go_wp2
            go_ret
            exact ⟨rfl, HB11.out⟩
  · go_wp2
    all_goals
      first
        | (go_ret; exact ⟨rfl, Below.refl _ _⟩)
        | omega

end Go.Proofs.Qxb6615552a
