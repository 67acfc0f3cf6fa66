/-
  THE WALKS of zzEqual, zzIsKeySet.
-/
import Derived.Test.Qxb6615552aKeys
namespace Go.Proofs.Qxb6615552a
open Go.RowKit Go.Maps
open Go.RowKit (Below)
set_option maxRecDepth 100000

set_option maxHeartbeats 400000 in
theorem equal_c (g g' cap cap' : Nat) (xs : List ByteArray) (w : World) (hm : xs.length ≤ 1000000) (h : RdS w g xs) (h' : RdS w g' xs) :
    Calls Try.prog 9 #[.slice (some ⟨g, 0, none⟩) xs.length cap, .slice (some ⟨g', 0, none⟩) xs.length cap'] w fun e w' => e = .returned (.bool true) ∧ ∃ n, w' = w.drewN n := by
  have H1 := hid h
  have H2 := hid h'
  clear h h'
  go_enter Try.func9, Try.ntmps9
  go_wp2
  go_loopw [5] (fun i wr => ∃ k n : Nat, k ≤ xs.length ∧ i = .int .i64 k ∧ wr = w.drewN n) (fun i _ => xs.length - (intOf i).toNat)
  case atStart => exact ⟨0, 0, Nat.zero_le _, rfl, rfl⟩
  case round =>
    obtain ⟨k, n, hk, rfl, hwr⟩ := hrel
    by_cases hlt : k < xs.length
    · obtain ⟨x, hx⟩ := sat hlt
      have hc1 : wr.cell? ⟨g, k, none⟩ = some (.string x) := by rw [hwr]; exact H1.out.2 k x hx
      have hc2 : wr.cell? ⟨g', k, none⟩ = some (.string x) := by rw [hwr]; exact H2.out.2 k x hx
      have hlt' : (k : Int) < (xs.length : Int) := by omega
      have HWR := hid hwr
      clear hx hwr
      go_wp2
      go_quiet (fail)
      go_wp2
      go_roundw
      case rel => exact ⟨k + 1, n + nq, by omega, by go_num, by rw [HWR.out]; simp⟩
      case measure => simp [intOf]; omega
    · have HWR := hid hwr
      clear hwr
      go_wp2
      go_ret
      exact ⟨rfl, n, HWR.out⟩

set_option maxHeartbeats 800000 in
theorem isKeySet_c (g cap : Nat) (xs : List ByteArray) (a : Option Nat) (ks : ByteArray → Bool) (w : World) (hm : xs.length ≤ 1000000) (h : RdS w g xs) (hM : MapIs w a ks xs.length) (hs : Srt xs) (hsm : ∀ x ∈ xs, x.size ≤ maxLen) (hks : ∀ x ∈ xs, ks x = true) :
    Calls Try.prog 8 #[.slice (some ⟨g, 0, none⟩) xs.length cap, .map a] w fun e w' => e = .returned (.bool true) ∧ ∃ n, w' = w.drewN n := by
  have hlen := hM.len
  have H1 := hid h
  have HM := hid hM
  have HS := hid hs
  have HSM := hid hsm
  have HKS := hid hks
  clear h hM hs hsm hks
  go_enter Try.func8, Try.ntmps8
  go_wp2
  go_loopw [5] (fun i wr => ∃ k n : Nat, k ≤ xs.length ∧ i = .int .i64 k ∧ wr = w.drewN n) (fun i _ => xs.length - (intOf i).toNat)
  case atStart => exact ⟨0, 0, Nat.zero_le _, rfl, rfl⟩
  case round =>
    obtain ⟨k, n, hk, rfl, hwr⟩ := hrel
    by_cases hlt : k < xs.length
    · obtain ⟨x, hx⟩ := sat hlt
      have hxm : x ∈ xs := List.mem_of_getElem? hx
      have hc1 : wr.cell? ⟨g, k, none⟩ = some (.string x) := by rw [hwr]; exact H1.out.2 k x hx
      have hM' : MapIs wr a ks xs.length := by rw [hwr]; exact HM.out.drewN n
      obtain ⟨s, hlook⟩ := hM'.look_ok (HSM.out x hxm)
      rw [HKS.out x hxm] at hlook
      have hlt' : (k : Int) < (xs.length : Int) := by omega
      have HWR := hid hwr
      by_cases hk0 : 0 < k
      · obtain ⟨y, hy⟩ := sat (xs := xs) (k := k - 1) (by omega)
        have hym : y ∈ xs := List.mem_of_getElem? hy
        have hc2 : wr.cell? ⟨g, k - 1, none⟩ = some (.string y) := by rw [hwr]; exact H1.out.2 (k - 1) y hy
        have hless : ltB y x = true := HS.out.less (by omega) hy hx
        have hcall : ∀ m, Calls Try.prog 16 #[.string y, .string x] (wr.drewN m) fun e w' => e = .returned (.bool true) ∧ ∃ j, w' = (wr.drewN m).drewN j := fun m => by
          have := less_c y x (wr.drewN m) (HSM.out y hym) (HSM.out x hxm)
          rw [hless] at this; exact this
        have hk0' : (0 : Int) < (k : Int) := by omega
        have e1 : (k : Int) - 1 = ((k - 1 : Nat) : Int) := by omega
        obtain ⟨p, rfl⟩ : ∃ p, k = p + 1 := ⟨k - 1, by omega⟩
        rw [Nat.add_sub_cancel] at hc2 e1
        have hlen' := hM'.len
        clear hx hy hwr hless hM' hxm hym hk0
        go_wp2
        go_quiet ((go_at_call 16; exact Calls.quiet_of (hcall _)))
        go_wp2
        go_roundw
        case rel => exact ⟨p + 1 + 1, n + nq, by omega, by go_num, by rw [HWR.out]; simp⟩
        case measure => simp [intOf]; omega
      · obtain rfl : k = 0 := by omega
        clear hx hwr hM' hxm hk0
        go_wp2
        go_quiet (fail)
        go_wp2
        go_roundw
        case rel => exact ⟨0 + 1, n + nq, by omega, by go_num, by rw [HWR.out]; simp⟩
        case measure => simp [intOf]; omega
    · have HWR := hid hwr
      clear hwr
      go_wp2
      go_ret
      exact ⟨rfl, n, HWR.out⟩

end Go.Proofs.Qxb6615552a
