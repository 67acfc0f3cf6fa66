/-
  THE WALKS of ZZnewResult, sortedKeys, ZZsortedKeys.
-/
import Derived.Test.Qxb6615552aKeys
import Derived.Test.Qxb6615552aShelf
import Derived.Maps.RangeWalk
import Derived.Maps.AppendAt
namespace Go.Proofs.Qxb6615552a
open Go.RowKit Go.Maps Go.Sort
open Go.RowKit (Below)
set_option maxRecDepth 100000

theorem info9 : (Try.prog.info? 9).map (fun i => (i.zero, i.size, i.bytes)) = some (some (.string ⟨#[]⟩), 1, 16) := by kernel_rfl

/-- The string of these bytes. -/
def mkB (l : List UInt8) : ByteArray := ⟨l.toArray⟩
theorem mkB_list (l : List UInt8) : (mkB l).data.toList = l := by simp [mkB]
theorem list_mkB (x : ByteArray) : mkB x.data.toList = x := ba_ext (mkB_list _)
theorem ltB_mk (x y : List UInt8) : ltB (mkB x) (mkB y) = decide (x < y) := by unfold ltB; rw [mkB_list, mkB_list]
theorem encStr_mkB (l : List UInt8) : encStr l = Value.string (mkB l) := rfl

theorem newResult_c (a : Option Nat) (w : World) :
    Calls Try.prog 7 #[.map a] w fun e w' => e = .returned (.pointer (some ⟨w.heap.size, 0, none⟩)) ∧ ∃ o, w' = w.alloc o ∧ w'.cell? ⟨w.heap.size, 0, none⟩ = some (.map a) := by
  go_enter Try.func7, Try.ntmps7
  go_wp2
  go_ret
  refine ⟨rfl, _, rfl, ?_⟩
  simp

/-- What sortedKeys hands back. -/
structure KeysOut (w : World) (ks : ByteArray → Bool) (n : Nat) (g c : Nat) (ts : List ByteArray) (w' : World) : Prop where
  fits : ts.length ≤ c
  srt : Srt ts
  mem : ∀ x, x ∈ ts ↔ ks x = true
  small : ∀ x ∈ ts, x.size ≤ maxLen
  len : ts.length = n
  new : w.heap.size ≤ g
  rd : RdS w' g ts
  below : Below w.heap.size w w'

theorem keysOut_mk {H : Type} {w0 w1 : World} {b N : Nat} {D : DataW H} (hown : w0.ownsMap Try.prog 9 (plainElem Try.prog 9) b N D) {left : Lit → Bool} {ss : List (List UInt8)} (hC : Collected D left ss) (hl : ∀ kl, left kl = false)
    {ks : ByteArray → Bool} (hk : ∀ x, ks x = Maps.has D (.string x.data.toList)) {w : World} {g cap : Nat} (hrow : w1.ownsRow w.heap.size 9 1 (.slice (some ⟨g, 0, none⟩) ss.length cap) ss.length ((ss.mergeSort (fun x y => decide (x ≤ y))).map encStr)) (hB : Below w.heap.size w w1) :
    KeysOut w ks (Maps.size D) g cap ((ss.mergeSort (fun x y => decide (x ≤ y))).map mkB) w1 ∧ ((ss.mergeSort (fun x y => decide (x ≤ y))).map mkB).length = ss.length := by
  have hp := List.mergeSort_perm ss (fun x y => decide (x ≤ y))
  have hpk := hC.perm hown law9 Try.underlying9 hl
  have hlen : (ss.mergeSort (fun x y => decide (x ≤ y))).length = ss.length := List.length_mergeSort ss
  obtain ⟨es, hD⟩ := hown.isMap
  have hsz : ss.length = Maps.size D := by
    rw [hpk.length_eq, hD]
    show (es.map fun p => strOf p.1).length = _
    rw [List.length_map]; rfl
  have hnd : (ss.mergeSort (fun x y => decide (x ≤ y))).Nodup := hp.symm.nodup hC.1
  have hle : (ss.mergeSort (fun x y => decide (x ≤ y))).Pairwise (fun a b => decide (a ≤ b) = true) :=
    List.pairwise_mergeSort (fun a b c h1 h2 => by simp only [decide_eq_true_eq] at *; exact List.le_trans h1 h2) (fun a b => by simp only [Bool.or_eq_true, decide_eq_true_eq]; exact List.le_total a b) ss
  have hmem : ∀ x, x ∈ (ss.mergeSort (fun x y => decide (x ≤ y))).map mkB ↔ x.data.toList ∈ ss := fun x => by
    rw [List.mem_map]
    constructor
    · rintro ⟨y, hy, rfl⟩; rw [mkB_list]; exact hp.mem_iff.1 hy
    · intro hx; exact ⟨_, hp.mem_iff.2 hx, list_mkB x⟩
  have hcap : ss.length ≤ cap := by
    rcases hrow.2 with ⟨hv, _⟩ | ⟨g', cap', cur, hv, _, _, hc, _⟩
    · cases hv
    · cases hv; exact hc
  refine ⟨⟨by rw [List.length_map, hlen]; exact hcap, ?_, ?_, ?_, ?_, (hrow.lt g rfl).1, ?_, hB⟩, by simp [hlen]⟩
  · show List.Pairwise _ _
    rw [List.pairwise_map]
    refine List.pairwise_iff_getElem.2 fun i j hi hj hij => ?_
    rw [ltB_mk]
    have h1 := (List.pairwise_iff_getElem.1 hle) i j hi hj hij
    have h2 := (List.pairwise_iff_getElem.1 hnd) i j hi hj hij
    rw [decide_eq_true_eq] at h1 ⊢
    rcases List.le_iff_lt_or_eq.1 h1 with h3 | h3
    · exact h3
    · exact absurd h3 h2
  · intro x; rw [hmem, hC.2, hk, hl]; simp
  · intro x hx
    have := strKeys_le hown Try.underlying9 _ (hpk.mem_iff.1 ((hmem x).1 hx))
    rw [ba_len] at this; exact this
  · rw [List.length_map, hlen, hsz]
  · refine RdS.of_row (base := w.heap.size) (n := ss.length) (cap := cap) ?_
    rw [List.length_map, hlen, List.map_map]
    exact hrow

set_option maxHeartbeats 1000000 in
theorem keys_some {H : Type} (rb b N : Nat) (D0 : DataW H) (ks : ByteArray → Bool) (w : World) (hc : w.cell? ⟨rb, 0, none⟩ = some (.map (some b))) (hown : w.ownsMap Try.prog 9 (plainElem Try.prog 9) b N D0) (hk : ∀ x, ks x = Maps.has D0 (.string x.data.toList)) (hn : Maps.size D0 ≤ 1000000) :
    Calls Try.prog 15 #[.pointer (some ⟨rb, 0, none⟩)] w fun e w' => ∃ (g cap : Nat) (ts : List ByteArray), e = .returned (.slice (some ⟨g, 0, none⟩) ts.length cap) ∧ KeysOut w ks (Maps.size D0) g cap ts w' := by
  obtain ⟨i0, hi, hz0, hz1, hz2⟩ := info_parts info9
  have hlen := hown.len Try.underlying22
  have hbl := hown.lt
  have HK := hid hk
  clear hk
  go_enter Try.func15, Try.ntmps15
  go_wp2_with (first
    | (at_make; refine wpList_make_own _ rfl _ _ 23 rfl w.heap.size 9 i0 (.string ⟨#[]⟩) 1 Try.underlying23 hi hz0 hz1 _ _ _ (Maps.size D0) rfl rfl rfl (by rw [hz2]; omega) (by unfold maxLen; omega) (Nat.le_refl _) ?_
       intro w1 hrow1 hg1
       have hc1 : w1.cell? ⟨rb, 0, none⟩ = some (.map (some b)) := (World.cell?_of_block (hg1.block rb (World.block_lt_of_cell? w _ hc) (by simp))).trans hc)
    | (at_range; refine wpList_range_own _ rfl _ 22 rfl 9 9 law9 Try.underlying22 _ b N _ rfl (hown.kept hg1 (by simp)) ?_; intro w0 hrg0 hg0 hs0))
  go_frame
  go_loopw [3] (fun v wr => ∃ (left : Lit → Bool) (cnt : Nat) (ss : List (List UInt8)), wr.ranges Try.prog 9 (plainElem Try.prog 9) b w1.heap.size N D0 left cnt ∧ ss.length + cnt ≤ Maps.size D0 ∧
      wr.ownsRow w.heap.size 9 1 v ss.length (ss.map encStr) ∧ v ≠ .slice none 0 0 ∧ Collected D0 left ss ∧ Below w.heap.size w wr)
    (fun _ wr => wr.rangeLeft b w1.heap.size)
  case atStart =>
    exact ⟨_, _, [], hrg0, by simp, hrow1.kept hg0 (Or.inr (by simp [Value.ownBlock])), by simp, Collected.start D0,
      ((Below.refl _ _).grown hg1 (Nat.le_refl _) (fun j hj => by cases hj)).grown hg0 hg1.size (fun j hj => by cases hj)⟩
  case round =>
    obtain ⟨left, cnt, ss, hrg, hcs, hrow, hnn, hC, hnx⟩ := hrel
    go_wp2_with (first
      | (at_next; refine wpList_next_ranges _ rfl _ rfl 9 law9 (plainElem Try.prog 9) encStr Value.string (fun key kl hk => by obtain ⟨x, hx, _⟩ := Maps.keyOf_str Try.underlying9 hk; exact ⟨x, hx⟩) (fun v y hv => by obtain ⟨c, rfl, _⟩ := plainElem_string_inv Try.underlying9 hv; exact ⟨c, rfl⟩) b w1.heap.size N _ _ _ rfl hrg ?_ ?_))
    · -- nothing is left: the slice is sorted and handed back
      intro hc0 hl0
      rcases hrow.2 with ⟨hnil, _⟩ | ⟨g, cap, cur, rfl, hbase, hb, h1, h2, h3, h4⟩
      · exact absurd hnil hnn
      have hH : Holds encStr wr g 0 ss.toArray := holds_of_block hb (by simpa using h4)
      have hgl : g < wr.heap.size := (Array.getElem?_eq_some_iff.1 hb).1
      have hc := Try.sort_Strings g 0 cap ss wr hH hgl (by omega)
      have HC := hid hC
      have HL := hid hl0
      have HB := hid hb
      have HX := hid (And.intro h1 (And.intro h2 h3))
      clear hC hl0 hb hH h4 h1 h2 h3
      go_wp2_with (go_at_call 18; refine hc.mono ?_; rintro e w' ⟨rfl, nn, os, rfl⟩)
      go_ret
      obtain ⟨hko, hl⟩ := keysOut_mk (w := w) hown HC.out HL.out HK.out (ownsRow_sorted (n := nn) (os := os) (by simp) hbase HB.out HX.out.1 HX.out.2.1 HX.out.2.2) (hnx.grown (grownBy_sorted _) hnx.size (fun j hj => by cases hj; exact hbase))
      refine ⟨g, cap, _, ?_, hko⟩
      rw [hl]; rfl
    · -- an entry has come: its key goes to the slice's end
      intro x c kl yd yp w2 cnt2 hkey hlk hv hat hrg2 hlt hg2 hs2 hen
      obtain ⟨x', ex, rfl, _⟩ := Maps.keyOf_str Try.underlying9 hkey
      obtain rfl : x = x' := encStr_inj ex
      have hrow2 := hrow.kept hg2 (Or.inr (row_ne_iter hrow hrg).symm)
      clear hs2
      go_wp2_with (first
        | (at_builtin; refine wpList_append_own _ rfl _ _ 23 rfl w.heap.size 9 i0 (.string ⟨#[]⟩) 1 16 Try.underlying23 hi hz0 hz1 hz2 rfl (by decide) _ _ _ rfl (hrow2.alloc _) ⟨w2.heap.size, 0, none⟩ 1 1 [encStr x] rfl rfl (cell_one_new _ _ _) (by simp [Value.oneCell', encStr]) (by unfold maxLen at *; omega) (by omega) (by have := hnx.size; have := hg2.size; simp; omega) ?_; intro v' w3 hown' hg3 hnil3; go_frame))
      have hrg3 := (hrg2.alloc _).kept hg3 (row_ne_low hrow2 hbl) (row_ne_iter hrow2 hrg2)
      go_roundw
      case rel =>
        refine ⟨_, cnt2, ss ++ [x], hrg3, by simp; omega, by simpa using hown', fun hv' => by have := (hnil3.1 hv').2; omega, hC.step hlk hat, ?_⟩
        exact ((hnx.grown hg2 hnx.size (fun j hj => by cases hj; exact hg1.size)).alloc (by have := hnx.size; have := hg2.size; omega) _).grown hg3 (by have := hnx.size; have := hg2.size; simp; omega) (fun j hj => (hrow2.lt j hj).1)
      case measure => rw [hrg3.left_eq, hrg.left_eq]; exact hlt

theorem keys_none (rb : Nat) (ks : ByteArray → Bool) (w : World) (hc : w.cell? ⟨rb, 0, none⟩ = some (.map none)) (hk : ∀ x, ks x = false) :
    Calls Try.prog 15 #[.pointer (some ⟨rb, 0, none⟩)] w fun e w' => ∃ (g cap : Nat) (ts : List ByteArray), e = .returned (.slice (some ⟨g, 0, none⟩) ts.length cap) ∧ KeysOut w ks 0 g cap ts w' := by
  obtain ⟨i0, hi, hz0, hz1, hz2⟩ := info_parts info9
  have HK := hid hk
  clear hk
  go_enter Try.func15, Try.ntmps15
  go_wp2_with (first
    | (at_make; refine wpList_make_own _ rfl _ _ 23 rfl w.heap.size 9 i0 (.string ⟨#[]⟩) 1 Try.underlying23 hi hz0 hz1 _ _ _ 0 rfl rfl rfl (by omega) (Nat.zero_le _) (Nat.le_refl _) ?_
       intro w1 hrow1 hg1
       have hc1 : w1.cell? ⟨rb, 0, none⟩ = some (.map none) := (World.cell?_of_block (hg1.block rb (World.block_lt_of_cell? w _ hc) (by simp))).trans hc
       have hrg := run_range_nilMap (P := Try.prog) w1 22 9 9 Try.underlying22
       have hnx : ∀ ty, (Instr.next (.pointer (some ⟨w1.heap.size, 0, none⟩)) false ty).run Try.prog (w1.alloc (.mapIter none 0 #[] 0)) = _ := fun ty => run_next_nilMap _ ty 0 0 #[]))
  refine wp_loop_rounds 1 ?_
  rw [rounds_succ]
  have hrow2 := hrow1.alloc (.mapIter none 0 #[] 0)
  rcases hrow2.2 with ⟨hnil, _⟩ | ⟨g, cap, cur, hv, hbase, hb, h1, h2, h3, h4⟩
  · cases hnil
  cases hv
  have hH : Holds encStr (w1.alloc (.mapIter none 0 #[] 0)) w.heap.size 0 ([] : List (List UInt8)).toArray := fun j hj => absurd hj (by simp)
  have hcs := Try.sort_Strings w.heap.size 0 0 [] _ hH (Array.getElem?_eq_some_iff.1 hb).1 (by decide)
  have HB := hid hb
  have HX := hid (And.intro h1 (And.intro h2 h3))
  clear hb hH h4 h1 h2 h3
  go_wp2_with (go_at_call 18; refine hcs.mono ?_; rintro e w' ⟨rfl, nn, os, rfl⟩)
  go_ret
  have hrow := ownsRow_sorted (n := nn) (os := os) (ss := []) (ts := []) rfl hbase HB.out HX.out.1 HX.out.2.1 HX.out.2.2
  refine ⟨w.heap.size, 0, [], rfl, ⟨Nat.le_refl _, List.Pairwise.nil, fun x => by rw [HK.out]; simp, by simp, rfl, Nat.le_refl _, RdS.of_row (base := w.heap.size) (n := 0) (cap := 0) hrow, ?_⟩⟩
  exact (((Below.refl _ _).grown hg1 (Nat.le_refl _) (fun j hj => by cases hj)).alloc hg1.size _).grown (grownBy_sorted _) (by have := hg1.size; simp; omega) (fun j hj => by cases hj; exact Nat.le_refl _)

theorem sortedKeys_c (rb : Nat) (a : Option Nat) (ks : ByteArray → Bool) (n : Nat) (w : World) (hc : w.cell? ⟨rb, 0, none⟩ = some (.map a)) (h : MapIs w a ks n) (hn : n ≤ 1000000) :
    Calls Try.prog 15 #[.pointer (some ⟨rb, 0, none⟩)] w fun e w' => ∃ (g cap : Nat) (ts : List ByteArray), e = .returned (.slice (some ⟨g, 0, none⟩) ts.length cap) ∧ KeysOut w ks n g cap ts w' := by
  rcases h with ⟨rfl, hk, rfl⟩ | ⟨H, b, N, D, rfl, ho, hk, rfl⟩
  · exact keys_none rb ks w hc hk
  · exact keys_some rb b N D ks w hc ho hk hn

theorem zzSortedKeys_c (rb : Nat) (a : Option Nat) (ks : ByteArray → Bool) (n : Nat) (w : World) (hc : w.cell? ⟨rb, 0, none⟩ = some (.map a)) (h : MapIs w a ks n) (hn : n ≤ 1000000) :
    Calls Try.prog 6 #[.pointer (some ⟨rb, 0, none⟩)] w fun e w' => ∃ (g cap : Nat) (ts : List ByteArray), e = .returned (.slice (some ⟨g, 0, none⟩) ts.length cap) ∧ KeysOut w ks n g cap ts w' := by
  have hs := sortedKeys_c rb a ks n w hc h hn
  have HH := hid h
  clear h
  go_enter Try.func6, Try.ntmps6
  go_wp2_with (go_at_call 15; refine hs.mono ?_; rintro e w' ⟨g, cap, ts, rfl, hko⟩)
  go_ret
  exact ⟨g, cap, ts, rfl, hko⟩

end Go.Proofs.Qxb6615552a
