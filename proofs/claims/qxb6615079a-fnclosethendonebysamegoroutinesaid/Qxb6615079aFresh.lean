/-
  THE WALKS of tickU, joinU: each hands back a new row.
-/
import Derived.Test.Qxb6615079aPlain
import Derived.Deep.RegionWith
namespace Go.Proofs.Qxb6615079a
open Go.RowKit
set_option maxRecDepth 100000

set_option maxHeartbeats 400000 in
theorem tickU_c (v : Value) (xs : List Int) (g : Nat) (q : Int) (w : World) (ow : Nat → Nat × Nat) (tg : Nat × Nat) (hm : xs.length ≤ 1000000000) (hg : g ≤ 1000000) (hr : RdU w v xs) :
    Calls Try.prog 21 #[v, .int .i64 g, .int .u32 q] w fun e w' => ∃ v', e = .returned v' ∧ Row w' (nw ow w.heap.size tg) tg 38 v' (u32s (tickL xs g q)) ∧ Evo NoTag w ow w' (nw ow w.heap.size tg) := by
  have hr0 := hr
  obtain ⟨a, cap, rfl, h0, _, _⟩ := hr
  obtain ⟨i0, hi, hz0, hz1, hz2⟩ := info_parts info38
  obtain ⟨n, hn⟩ : ∃ n, n = max xs.length (g + 1) := ⟨_, rfl⟩
  have hN : (xs.length < g + 1 ∧ n = g + 1) ∨ (g + 1 ≤ xs.length ∧ n = xs.length) := by omega
  have HN := hid hn
  clear h0 hn
  rcases hN with ⟨hlt, hn⟩ | ⟨hlt, hn⟩
  all_goals
    have HE := hid hn
    clear hn
    have hlt' := hlt
    have hgl : g < n := by have := HE.out; omega
    have hxl : xs.length ≤ n := by have := HE.out; omega
    go_enter Try.func21, Try.ntmps21
    go_wp2_with (at_make; refine wpList_make_full _ rfl _ _ 23 rfl 0 38 i0 (.int .u32 0) 1 Try.underlying23 hi hz0 hz1 _ _ _ _ n rfl rfl (by have := HE.out; omega) (by have := HE.out; omega) (by rw [hz2]; have := HE.out; omega) (by unfold maxLen; have := HE.out; omega) (Nat.zero_le _) ?_)
    intro w1 hown hgrow
    have hown' : w1.ownsRow 0 38 1 (.slice (some ⟨w.heap.size, 0, none⟩) n n) n (madeCells #[Value.int IntKind.u32 0] n).toList := by simpa using hown
    obtain ⟨hrow, hevo⟩ := Row.made (ow := ow) (tg := tg) hown' hgrow
    obtain ⟨w2, hcopy, hrow2, hevo2⟩ := run_copy_u 23 Try.underlying23 hrow (hr0.evo hevo (fun _ h => h)) hxl 3
    rw [u32s_pad xs g n HN.out] at hrow2
    have E := hid (hevo.fresh hevo2 (Nat.le_refl _))
    have hcell := hrow2.cell (u32s_get (padTo xs (g + 1)) g (by rw [padTo_length]; omega))
    have hfz := hrow2.frozen g
    rw [padTo_get] at hcell
    have hx : atN xs g = xs.getD g 0 := rfl
    rw [← hx] at hcell
    have HR := hid ((hrow2.set g (.int .u32 ((atN xs g + q) % 4294967296))).1)
    clear hown hown' hgrow hrow hevo hevo2 hrow2 hx hlt
    go_wp2
    go_ret
    refine ⟨_, rfl, ?_, E.out.fresh (grownBy_setCell _ _ _ _) (Nat.le_refl _)⟩
    rw [tickL, u32s_set]
    exact HR.out

set_option maxHeartbeats 400000 in
theorem joinU_c (va vb : Value) (xs ys : List Int) (w : World) (ow : Nat → Nat × Nat) (tg : Nat × Nat) (hma : xs.length ≤ 1000000000) (hmb : ys.length ≤ 1000000000) (ha : RdU w va xs) (hb : RdU w vb ys) :
    Calls Try.prog 20 #[va, vb] w fun e w' => ∃ v', e = .returned v' ∧ Row w' (nw ow w.heap.size tg) tg 38 v' (u32s (joinL xs ys)) ∧ Evo NoTag w ow w' (nw ow w.heap.size tg) := by
  have ha0 := ha
  have hb0 := hb
  obtain ⟨a, ca, rfl, _, _, _⟩ := ha
  obtain ⟨b, cb, rfl, _, _, _⟩ := hb
  obtain ⟨i0, hi, hz0, hz1, hz2⟩ := info_parts info38
  obtain ⟨n, hn⟩ : ∃ n, n = max xs.length ys.length := ⟨_, rfl⟩
  have hN : (xs.length < ys.length ∧ n = ys.length) ∨ (ys.length ≤ xs.length ∧ n = xs.length) := by omega
  have HN := hid hn
  clear hn
  rcases hN with ⟨hlt, hn⟩ | ⟨hlt, hn⟩
  all_goals
    have HE := hid hn
    clear hn
    have hlt' := hlt
    go_enter Try.func20, Try.ntmps20
    go_wp2_with (at_make; refine wpList_make_full _ rfl _ _ 23 rfl 0 38 i0 (.int .u32 0) 1 Try.underlying23 hi hz0 hz1 _ _ _ _ n rfl rfl (by have := HE.out; omega) (by have := HE.out; omega) (by rw [hz2]; have := HE.out; omega) (by unfold maxLen; have := HE.out; omega) (Nat.zero_le _) ?_)
    intro w1 hown hgrow
    have hown' : w1.ownsRow 0 38 1 (.slice (some ⟨w.heap.size, 0, none⟩) n n) n (madeCells #[Value.int IntKind.u32 0] n).toList := by simpa using hown
    obtain ⟨hrow, hevo⟩ := Row.made (ow := ow) (tg := tg) hown' hgrow
    clear hown hown' hgrow
    go_wp2
    go_loopw [7] (fun i wr => ∃ k : Nat, k ≤ n ∧ i = .int .i64 k ∧ Row wr (nw ow w.heap.size tg) tg 38 (.slice (some ⟨w.heap.size, 0, none⟩) n n) (Half xs ys n k) ∧ Evo NoTag w ow wr (nw ow w.heap.size tg)) (fun i _ => n - (intOf i).toNat)
    case atStart => exact ⟨0, Nat.zero_le _, rfl, by rw [half_zero]; exact hrow, hevo⟩
    case round =>
      obtain ⟨k, hk, rfl, hR, hE⟩ := hrel
      clear hrow hevo
      have hkb : k ≤ 1000000000 := by have := HE.out; omega
      by_cases hkn : k < n
      · have hra := ha0.evo hE (fun _ h => h)
        have hrb := hb0.evo hE (fun _ h => h)
        have hkn' := HE.out ▸ hkn
        obtain ⟨u0, hu0⟩ : ∃ u0, (Half xs ys n k)[k]? = some u0 := ⟨(Half xs ys n k)[k]'(by rw [half_length xs ys n k HN.out hk]; exact hkn), by simp⟩
        have hcell := hR.cell hu0
        have hfz := hR.frozen k
        have HR := hid hR
        have HV := hid hE
        clear hR hE hu0
        by_cases hpq : atN xs k < atN ys k
        all_goals
          go_wp2_with (first | (go_at_call_of 50 (Value.slice a xs.length ca); refine (atU_c _ xs k _ hkb hra).mono ?_; rintro e w' ⟨rfl, rfl⟩) | (go_at_call_of 50 (Value.slice b ys.length cb); refine (atU_c _ ys k _ hkb hrb).mono ?_; rintro e w' ⟨rfl, rfl⟩))
          go_roundw
          case rel => exact ⟨k + 1, by omega, by go_num, half_row HN.out hkn HR.out (by split <;> omega), HV.out.fresh (grownBy_setCell _ _ _ _) (Nat.le_refl _)⟩
          case measure => simp [intOf]; omega
      · obtain rfl : k = n := by omega
        have hkn' := HE.out
        go_wp2
        go_ret
        rw [half_all xs ys _ HN.out] at hR
        exact ⟨_, rfl, hR, hE⟩

end Go.Proofs.Qxb6615079a
