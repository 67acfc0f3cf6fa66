/-
  THE WALK of FnSortedKeysInsertOneKey.
-/
import Derived.Test.Qxb6615552aInsert
namespace Go.Proofs.Qxb6615552a
open Go.RowKit Go.Maps
open Go.RowKit (Below)
set_option maxRecDepth 100000

/-- Block b of w is a map of at most N entries; its keys are the members of zs. -/
def Grown (w : World) (b N : Nat) (zs : List ByteArray) : Prop :=
  ∃ D : DataW Unit, w.ownsMap Try.prog 9 (plainElem Try.prog 9) b N D ∧ ∀ y : ByteArray, Maps.has D (.string y.data.toList) = true ↔ y ∈ zs

theorem Grown.made (w : World) : Grown (w.alloc (.map #[] 0)) w.heap.size 0 [] :=
  ⟨.map [], World.ownsMap_made _ _ _ _, fun y => by rw [Maps.has_eq]; simp⟩
theorem Grown.below {w w' : World} {b N : Nat} {zs : List ByteArray} (h : Grown w b N zs) (hb : Below w.heap.size w w') : Grown w' b N zs :=
  let ⟨D, ho, hk⟩ := h; ⟨D, ownsMap_below ho hb, hk⟩
theorem Grown.lt {w : World} {b N : Nat} {zs : List ByteArray} (h : Grown w b N zs) : b < w.heap.size := let ⟨_, ho, _⟩ := h; ho.lt

theorem Grown.put {w : World} {b N : Nat} {zs zs' : List ByteArray} (h : Grown w b N zs) (hN : N < maxLen) {x s : ByteArray} (hx : x.size ≤ maxLen) (hs : s.size ≤ maxLen) (hz : ∀ y, y ∈ zs' ↔ y ∈ zs ∨ y = x) :
    ∃ w', (Instr.mapUpdate 22 (.map (some b)) (.string x) (.string s)).run Try.prog w = .ok () w' ∧ Grown w' b (N + 1) zs' ∧ w.grownBy w' (some b) := by
  obtain ⟨D, ho, hk⟩ := h
  obtain ⟨w', hrun, ho', hg⟩ := ho.update law9 Try.underlying22 hN (WideMaps.keyOf_string_mk Try.underlying9 hx) (plainElem_string Try.underlying9 hs)
  refine ⟨w', hrun, ⟨_, ho', fun y => ?_⟩, hg⟩
  rw [hz, ← hk]
  by_cases hy : y = x
  · subst hy
    rw [Maps.has_put_same (k := .string y.data.toList) ho.isMap trivial]
    simp
  · rw [Maps.has_put_other (fun e => hy (ba_ext (Lit.string.inj e)))]
    simp [hy]

theorem Grown.mapIs {w : World} {b N : Nat} {zs : List ByteArray} (h : Grown w b N zs) : ∃ ks n, MapIs w (some b) ks n ∧ n ≤ N ∧ ∀ y, ks y = true ↔ y ∈ zs := by
  obtain ⟨D, ho, hk⟩ := h
  exact ⟨fun y => Maps.has D (.string y.data.toList), Maps.size D, .inr ⟨Unit, b, N, D, rfl, ho, fun _ => rfl, rfl⟩, ho.size_le, hk⟩

/-- 'm[before[i]]', then 'grown[before[i]] = ..', behind one draw. -/
theorem Grown.round {w : World} {b N : Nat} {zs zs' : List ByteArray} (h : Grown w b N zs) (hN : N < maxLen) {a : Option Nat} {ks : ByteArray → Bool} {n : Nat} (hM : MapIs w a ks n) {x : ByteArray} (hx : x.size ≤ maxLen) (hz : ∀ y, y ∈ zs' ↔ y ∈ zs ∨ y = x) :
    ∃ (s : ByteArray) (w' : World), (Instr.lookup 22 (.map a) (.string x) false).run Try.prog w.drew = .ok (.string s) w.drew ∧
      (Instr.mapUpdate 22 (.map (some b)) (.string x) (.string s)).run Try.prog w.drew = .ok () w' ∧ Grown w' b (N + 1) zs' ∧ w.grownBy w' (some b) := by
  have hM' : MapIs w.drew a ks n := hM
  have h' : Grown w.drew b N zs := h
  obtain ⟨s, hs, hl⟩ := hM'.look hx
  obtain ⟨w', hr, hG, hg⟩ := h'.put hN hx hs hz
  exact ⟨s, w', hl, hr, hG, ⟨hg.os, hg.tape, hg.output, hg.size, hg.block⟩⟩

set_option maxHeartbeats 2000000 in
theorem ins_walk (a : Option Nat) (ks : ByteArray → Bool) (n : Nat) (k v : ByteArray) (w : World) (hM : MapIs w a ks n) (hnm : n ≤ maxLen) (hk0 : k.size ≤ maxLen) (hv0 : v.size ≤ maxLen) :
    Calls Try.prog 3 #[.map a, .string k, .string v] w fun e w' => e = .returned (.bool true) ∧ Below w.heap.size w w' := by
  have hlen := hM.len
  have HM := hid hM
  have HK0 := hid hk0
  have HV0 := hid hv0
  unfold maxLen at hnm hk0 hv0
  clear hM
  go_enter Try.func3, Try.ntmps3
  by_cases ht : n ≤ 65536 ∧ k.size ≤ 1048576 ∧ v.size ≤ 1048576
  · obtain ⟨ht1, ht2, ht3⟩ := ht
    go_wp2_with fail
    refine (newResult_c a w).mono ?_
    rintro e w1 ⟨rfl, o, hw1, hc1⟩
    have HB1 : Hid (Below w.heap.size w w1) := by rw [hw1]; exact (Below.refl _ _).alloc (Nat.le_refl _) _
    have HM1 : Hid (MapIs w1 a ks n) := HM.out.below HB1.out
    have HC1 := hid hc1
    clear hw1 hc1
    go_wp2_with fail
    refine (zzSortedKeys_c w.heap.size a ks n w1 HC1.out HM1.out (by omega)).mono ?_
    rintro e w2 ⟨g, cap, ts, rfl, hko⟩
    have HKO := hid hko
    have HB2 : Hid (Below w.heap.size w w2) := HB1.out.trans (hko.below.mono HB1.out.size)
    have HM2 : Hid (MapIs w2 a ks n) := HM.out.below HB2.out
    have htl : ts.length ≤ 65536 := by rw [hko.len]; exact ht1
    clear hko
    go_wp2_with fail
    refine (isKeySet_c g cap ts a ks w2 (by omega) HKO.out.rd (by rw [HKO.out.len]; exact HM2.out) HKO.out.srt HKO.out.small (fun x hx => (HKO.out.mem x).1 hx)).mono ?_
    rintro e w3 ⟨rfl, j, hw3⟩
    have HB3 : Hid (Below w.heap.size w w3) := by rw [hw3]; exact ⟨HB2.out.os, HB2.out.tape, HB2.out.output, HB2.out.size, HB2.out.block⟩
    have HM3 : Hid (MapIs w3 a ks n) := by rw [hw3]; exact HM2.out
    have HR3 : Hid (RdS w3 g ts) := by rw [hw3]; exact HKO.out.rd
    clear hw3
    have hmk := run_makeMap22
    go_wp2
    go_loopw [9] (fun i wr => ∃ q : Nat, q ≤ ts.length ∧ i = .int .i64 q ∧ Hid (Grown wr w3.heap.size q (ts.take q)) ∧ Hid (Below w3.heap.size w3 wr)) (fun i _ => ts.length - (intOf i).toNat)
    case atStart => exact ⟨0, Nat.zero_le _, rfl, Grown.made w3, (Below.refl _ _).alloc (Nat.le_refl _) _⟩
    case round =>
      obtain ⟨q, hq, rfl, HG, HBr⟩ := hrel
      have HMr : Hid (MapIs wr a ks n) := HM3.out.below HBr.out
      have HRr : Hid (RdS wr g ts) := HR3.out.below HBr.out
      by_cases hlt : q < ts.length
      · obtain ⟨x, hx⟩ := sat hlt
        have hxm : x ∈ ts := List.mem_of_getElem? hx
        have hlt' : (q : Int) < (ts.length : Int) := by omega
        have hcx : wr.cell? ⟨g, q, none⟩ = some (.string x) := HRr.out.2 q x hx
        obtain ⟨s, w', hl, hu, hG, hg⟩ := HG.out.round (by unfold maxLen; omega) HMr.out (HKO.out.small x hxm) (mem_take_succ hx)
        have HG' := hid hG
        have HB' : Hid (Below w3.heap.size w3 w') := HBr.out.grown hg HBr.out.size (fun j hj => by cases hj; exact Nat.le_refl _)
        clear hG hg hx hxm
        go_wp2
        go_region
        all_goals
          go_wp2
          go_roundw
          case rel => exact ⟨q + 1, by omega, by go_num, HG', HB'⟩
          case measure => simp [intOf]; omega
      · obtain rfl : q = ts.length := by omega
        rw [List.take_length] at HG
        obtain ⟨w5, hu5, hG5, hg5⟩ := HG.out.put (zs' := ts ++ [k]) (by unfold maxLen; omega) HK0.out HV0.out (fun y => by rw [List.mem_append, List.mem_singleton])
        have HB5a : Hid (Below w3.heap.size w3 w5) := HBr.out.grown hg5 HBr.out.size (fun j hj => by cases hj; exact Nat.le_refl _)
        have HB5 : Hid (Below w.heap.size w w5) := HB3.out.trans (HB5a.out.mono HB3.out.size)
        have HR5 : Hid (RdS w5 g ts) := HR3.out.below HB5a.out
        obtain ⟨ks5, n5, hM5, hn5, hk5⟩ := hG5.mapIs
        have HM5 := hid hM5
        have HKS5 := hid hk5
        clear hG5 hg5 hM5 hk5
        go_wp2_with fail
        refine (newResult_c (some w3.heap.size) w5).mono ?_
        rintro e w6 ⟨rfl, o, hw6, hc6⟩
        have HB6a : Hid (Below w5.heap.size w5 w6) := by rw [hw6]; exact (Below.refl _ _).alloc (Nat.le_refl _) _
        have HM6 : Hid (MapIs w6 (some w3.heap.size) ks5 n5) := HM5.out.below HB6a.out
        have HB6 : Hid (Below w.heap.size w w6) := HB5.out.trans (HB6a.out.mono HB5.out.size)
        have HR6 : Hid (RdS w6 g ts) := HR5.out.below HB6a.out
        have HC6 := hid hc6
        clear hw6 hc6
        go_wp2_with fail
        refine (zzSortedKeys_c w5.heap.size (some w3.heap.size) ks5 n5 w6 HC6.out HM6.out (by omega)).mono ?_
        rintro e w7 ⟨g7, cap7, ts7, rfl, hko7⟩
        have HKO7 := hid hko7
        have HR7 : Hid (RdS w7 g ts) := HR6.out.below hko7.below
        have HB7 : Hid (Below w.heap.size w w7) := HB6.out.trans (hko7.below.mono HB6.out.size)
        have htl7 : ts7.length ≤ 65537 := by rw [hko7.len]; omega
        clear hko7
        go_wp2_with fail
        refine (insert_c g cap ts k w7 (by omega) HKO.out.fits HR7.out HKO.out.srt HKO.out.small HK0.out).mono ?_
        rintro e w8 ⟨g8, cap8, ys, rfl, hsy, hmy, hry, hby⟩
        have hE : ts7 = ys := HKO7.out.srt.same hsy (fun x => by rw [HKO7.out.mem, HKS5.out, hmy, List.mem_append, List.mem_singleton])
        subst hE
        have HR8 := hid hry
        have HR8b : Hid (RdS w8 g7 ts7) := HKO7.out.rd.below hby
        have HB8 : Hid (Below w.heap.size w w8) := HB7.out.trans (hby.mono HB7.out.size)
        clear hsy hmy hry hby
        go_wp2_with fail
        refine (equal_c g7 g8 cap7 cap8 ts7 w8 (by omega) HR8b.out HR8.out).mono ?_
        rintro e w9 ⟨rfl, j9, hw9⟩
        have HB9 : Hid (Below w.heap.size w w9) := by rw [hw9]; exact ⟨HB8.out.os, HB8.out.tape, HB8.out.output, HB8.out.size, HB8.out.block⟩
        clear hw9
        go_wp2
        go_ret
        exact ⟨rfl, HB9.out⟩
  · go_wp2
    all_goals
      first
        | (go_ret; exact ⟨rfl, Below.refl _ _⟩)
        | omega

end Go.Proofs.Qxb6615552a
