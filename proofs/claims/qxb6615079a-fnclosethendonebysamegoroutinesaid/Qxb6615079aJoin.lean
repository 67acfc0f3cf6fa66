/-
  THE WALK of clock.join.
-/
import Derived.Test.Qxb6615079aDetach
namespace Go.Proofs.Qxb6615079a
open Go.RowKit
set_option maxRecDepth 100000

/-- What the second loop of join has made of zs behind k rounds. -/
def mxTo (zs ys : List Int) (k : Nat) : List Int := (List.range zs.length).map fun i => if i < k then (if atN zs i < atN ys i then atN ys i else atN zs i) else atN zs i
theorem mxTo_length (zs ys : List Int) (k : Nat) : (mxTo zs ys k).length = zs.length := by simp [mxTo]
theorem mxTo_zero (zs ys : List Int) : mxTo zs ys 0 = zs := by
  apply List.ext_getElem
  · simp [mxTo]
  · intro i h1 h2
    simp [mxTo, atN, h2]
theorem mxTo_get (zs ys : List Int) (k i : Nat) (h : i < zs.length) : (mxTo zs ys k).getD i 0 = if i < k then (if atN zs i < atN ys i then atN ys i else atN zs i) else atN zs i := by simp [mxTo, h]
theorem mxTo_set (zs ys : List Int) (k : Nat) : (mxTo zs ys k).set k (if atN zs k < atN ys k then atN ys k else atN zs k) = mxTo zs ys (k + 1) := by
  apply List.ext_getElem
  · simp [mxTo]
  · intro i h1 h2
    rw [List.getElem_set]
    by_cases hik : k = i
    · subst hik; simp [mxTo]
    · simp [mxTo, hik]
      have : (i < k) = (i < k + 1) := by simp; omega
      simp only [this]

/-- What clock.join computes. -/
def joinM (xs ys : List Int) : List Int := mxTo (padTo xs ys.length) ys ys.length

set_option maxHeartbeats 800000 in
theorem join_c (vc vo : Value) (xs ys : List Int) (w : World) (ow : Nat → Nat × Nat) (tg tg' : Nat × Nat) (hne : tg' ≠ tg) (_hmx : xs.length ≤ 1000000000) (hmy : ys.length ≤ 1000000000) (hc : Row w ow tg 38 vc (u32s xs)) (ho : Row w ow tg' 38 vo (u32s ys)) :
    Calls Try.prog 49 #[vc, vo] w fun e w' => ∃ v' ow', e = .returned v' ∧ Row w' ow' tg 38 v' (u32s (joinM xs ys)) ∧ Evo (OneTag tg) w ow w' ow' := by
  obtain ⟨aq, cc, rfl⟩ := hc.shapeU
  obtain ⟨ao, co, rfl⟩ := ho.shapeU
  obtain ⟨i0, hi, hz0, hz1, hz2⟩ := info_parts info38
  have HC := hid hc
  have HO := hid ho
  have HNE := hid hne
  clear hc ho hne
  go_enter Try.func49, Try.ntmps49
  go_wp2
  go_loopw [0] (fun cv wr => ∃ a n cap owr, cv = .slice a n cap ∧ xs.length ≤ n ∧ n ≤ max xs.length ys.length ∧ Row wr owr tg 38 (.slice a n cap) (u32s (padTo xs n)) ∧ Evo (OneTag tg) w ow wr owr) (fun cv _ => ys.length - lenV cv)
  case atStart => exact ⟨_, _, _, ow, rfl, Nat.le_refl _, Nat.le_max_left _ _, by rw [padTo_self]; exact HC.out, Evo.refl _ _ _⟩
  case round =>
    obtain ⟨a, n, cap, owr, rfl, hn1, hn2, hR, hE⟩ := hrel
    by_cases hng : n < ys.length
    · have hn' : (n : Int) < (ys.length : Int) := by omega
      have hown := hR.1
      rw [u32s_length, padTo_len xs n hn1] at hown
      go_wp2_with (at_builtin; refine wpList_append_lies _ rfl _ _ 71 rfl 0 38 i0 (.int .u32 0) 1 4 Try.underlying71 hi hz0 hz1 hz2 rfl (by decide) _ n (u32s (padTo xs n)) rfl (hown.alloc _) ⟨wr.heap.size, 0, none⟩ 1 1 [.int .u32 0] rfl rfl (cell_one_new _ _ _) (by intro u hu; simp at hu; subst hu; rfl) (by decide) (by unfold maxLen; omega) (by omega) (Nat.zero_le _) (wr.heap.size + 1) (by simp) ?_)
      intro g' cap' w1 hown1 hgrow hat _
      obtain ⟨hR1, hE1⟩ := hR.grow hown1 (by rw [u32s_length, padTo_len xs n hn1]) hgrow hat
      have e1 : u32s (padTo xs n) ++ [Value.int .u32 0] = u32s (padTo xs (n + 1)) := by rw [← padTo_next xs n hn1]; simp [u32s]
      rw [e1] at hR1
      have HR1 := hid hR1
      have HE1 := hid (hE.trans hE1)
      clear hown1 hgrow hat hR1 hE1 hown hR hE e1
      go_wp2
      go_roundw
      case rel => exact ⟨_, n + 1, _, _, rfl, by omega, by omega, HR1.out, HE1.out⟩
      case measure => simp [lenV]; omega
    · have hn3 : n = max xs.length ys.length := by omega
      have hpad : padTo xs n = padTo xs ys.length := by
        by_cases hb : ys.length ≤ xs.length
        · rw [padTo_small xs ys.length hb, show n = xs.length by omega, padTo_self]
        · rw [show n = ys.length by omega]
      rw [hpad] at hR
      have HR := hid hR
      have HE := hid hE
      have HN := hid hn3
      clear hR hE hn3 hpad
      obtain ⟨wo, hwo⟩ : ∃ wo, wo = wr := ⟨_, rfl⟩
      subst hwo
      go_wp2
      go_loopw [17] (fun i w2 => ∃ k : Nat, k ≤ ys.length ∧ i = .int .i64 k ∧ Row w2 owr tg 38 (.slice a n cap) (u32s (mxTo (padTo xs ys.length) ys k)) ∧ Evo (OneTag tg) wo owr w2 owr) (fun i _ => ys.length - (intOf i).toNat)
      case atStart => exact ⟨0, Nat.zero_le _, rfl, by rw [mxTo_zero]; exact HR.out, Evo.refl _ _ _⟩
      case round =>
        obtain ⟨k, hk, rfl, hR2, hE2⟩ := hrel
        by_cases hkn : k < ys.length
        · have hzl : (padTo xs ys.length).length = n := by rw [padTo_length, HN.out]
          have hkn2 : k < n := by have := HN.out; omega
          have hkn' : (k : Int) < (ys.length : Int) := by omega
          have hkn2' : (k : Int) < (n : Int) := by omega
          rcases hR2.formU with ⟨hv, _⟩ | ⟨gb, cap2, hv, htag, _, _, _⟩
          · cases hv; omega
          rw [mxTo_length, hzl] at hv
          obtain ⟨rfl, rfl⟩ : a = some ⟨gb, 0, none⟩ ∧ cap = cap2 := by cases hv; exact ⟨rfl, rfl⟩
          rcases HO.out.formU with ⟨hvo, h0⟩ | ⟨go, capo, hvo, htago, _, _, _⟩
          · rw [h0] at hkn; simp at hkn
          obtain ⟨rfl, rfl⟩ : ao = some ⟨go, 0, none⟩ ∧ co = capo := by cases hvo; exact ⟨rfl, rfl⟩
          have ho2 := (HO.out.evo HE.out (by simpa [OneTag] using HNE.out)).evo hE2 (by simpa [OneTag] using HNE.out)
          have hco := ho2.cell (u32s_get ys k hkn)
          have hcc := hR2.cell (u32s_get _ k (by rw [mxTo_length, hzl]; exact hkn2))
          rw [mxTo_get _ _ _ _ (by rw [hzl]; exact hkn2), if_neg (by omega)] at hcc
          have hfz := hR2.frozen k
          have hyk : ys.getD k 0 = atN ys k := rfl
          rw [hyk] at hco
          obtain ⟨hR3, hE3⟩ := hR2.set k (.int .u32 (if atN (padTo xs ys.length) k < atN ys k then atN ys k else atN (padTo xs ys.length) k))
          rw [← u32s_set, mxTo_set] at hR3
          have HR3 := hid hR3
          have HE3 := hid (hE2.trans hE3)
          clear hR2 hE2 hR3 hE3 hv hvo htag htago ho2 hyk hzl
          go_wp2
          go_roundw
          case rel => exact ⟨k + 1, by omega, by go_num, HR3.out, HE3.out⟩
          case measure => simp [intOf]; omega
        · obtain rfl : k = ys.length := by omega
          go_wp2
          go_ret
          exact ⟨_, owr, rfl, hR2, HE.out.trans hE2⟩

end Go.Proofs.Qxb6615079a
