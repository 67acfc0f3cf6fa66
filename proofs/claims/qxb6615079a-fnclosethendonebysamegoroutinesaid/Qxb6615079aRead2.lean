/-
  THE WALKS that only read: nestedBytes, atU, sameU.
-/
import Derived.Test.Qxb6615079aRead
import Derived.Deep.QuietTactic
import Derived.BigQuiet
namespace Go.Proofs.Qxb6615079a
open Go.RowKit
set_option maxRecDepth 100000

/-- What nestedBytes (under a budget of 2^20) answers. -/
def NB (css : List (List Int)) (e : Ending) : Prop := ∃ r : Nat, e = .returned (.int .i64 r) ∧ r ≤ 1048577 ∧ (r ≤ 1048576 → css.length ≤ 131072 ∧ ∀ c ∈ css, c.length ≤ 262144)
theorem NB.over (css : List (List Int)) : NB css (.returned (.int .i64 1048577)) := ⟨1048577, rfl, by omega, fun h => by omega⟩
theorem NB.mk {css : List (List Int)} (r : Nat) (h : r ≤ 1048576) (hl : css.length ≤ 131072) (hc : ∀ j c, j < css.length → css[j]? = some c → c.length ≤ 262144) : NB css (.returned (.int .i64 r)) :=
  ⟨r, rfl, by omega, fun _ => ⟨hl, fun c hm => by obtain ⟨i, hi⟩ := List.getElem?_of_mem hm; exact hc i c (List.getElem?_eq_some_iff.1 hi).1 hi⟩⟩

set_option maxHeartbeats 1000000 in
theorem nb12 (v : Value) (css : List (List Int)) (w : World) (hr : RdUU w v css) :
    Calls Try.prog 12 #[v, .int .i64 1048576] w fun e w' => NB css e ∧ w' = w := by
  obtain ⟨a, cap, rfl, h0, hm, hc⟩ := hr
  unfold maxLen at hm
  have HC := hid hc
  clear hc h0
  by_cases hbig : css.length ≤ 131072
  · have hb' : (css.length : Int) ≤ 131072 := by omega
    go_enter Try.func12, Try.ntmps12
    go_wp2
    go_loop [5, 6] (fun z i => ∃ k q : Nat, k ≤ css.length ∧ i = .int .i64 k ∧ q ≤ 1048576 ∧ z = .int .i64 q ∧ Hid (∀ j c, j < k → css[j]? = some c → c.length ≤ 262144)) (fun _ i => css.length - (intOf i).toNat)
    case atStart => exact ⟨0, 8 * css.length, Nat.zero_le _, rfl, by omega, by go_num, fun j c hj => by omega⟩
    case round =>
      obtain ⟨k, q, hk, rfl, hq, rfl, HL⟩ := hrel
      by_cases hlt : k < css.length
      · obtain ⟨b, off, rfl, hcell⟩ := HC.out (by omega)
        obtain ⟨x, hx⟩ : ∃ x, css[k]? = some x := ⟨css[k], by simp⟩
        obtain ⟨u, hu, hru⟩ := hcell k x hx
        obtain ⟨au, cu, rfl, _, hml, _⟩ := hru
        unfold maxLen at hml
        have HX := hid hx
        clear hx hcell
        go_wp2
        · go_ret; exact ⟨NB.over _, rfl⟩
        · go_round
          case rel =>
            refine ⟨k + 1, q + 4 * x.length, by omega, by go_num, by omega, by go_num, fun j c hj hc => ?_⟩
            by_cases hjk : j = k
            · subst hjk
              rw [HX.out] at hc
              cases hc
              omega
            · exact HL.out j c (by omega) hc
          case measure => simp [intOf]; omega
      · obtain rfl : k = css.length := by omega
        go_wp2
        go_ret
        exact ⟨NB.mk q hq hbig HL.out, rfl⟩
  · have hb' : (131072 : Int) < (css.length : Int) := by omega
    go_enter Try.func12, Try.ntmps12
    go_wp2
    go_ret
    exact ⟨NB.over _, rfl⟩

/-- Entry k of a clock; nought past its end. -/
def atN (xs : List Int) (k : Nat) : Int := xs.getD k 0

set_option maxHeartbeats 400000 in
theorem atU_c (v : Value) (xs : List Int) (k : Nat) (w : World) (hk : k ≤ 1000000000) (hr : RdU w v xs) :
    Calls Try.prog 50 #[v, .int .i64 k] w fun e w' => e = .returned (.int .u32 (atN xs k)) ∧ w' = w := by
  obtain ⟨a, cap, rfl, h0, hm, hc⟩ := hr
  unfold maxLen at hm
  by_cases hlt : k < xs.length
  · obtain ⟨b, off, rfl, hcell⟩ := hc (by omega)
    obtain ⟨x, hx⟩ : ∃ x, atN xs k = x := ⟨_, rfl⟩
    have hu := hcell k hlt
    have hx' : xs.getD k 0 = x := hx
    rw [hx'] at hu
    rw [hx]
    clear hc hcell h0 hx hx'
    go_enter Try.func50, Try.ntmps50
    go_wp2
    go_ret
    exact ⟨rfl, rfl⟩
  · have hx : atN xs k = 0 := by simp [atN]; rw [List.getElem?_eq_none (by omega)]; rfl
    rw [hx]
    clear hc h0 hx
    go_enter Try.func50, Try.ntmps50
    go_wp2
    go_ret
    exact ⟨rfl, rfl⟩

set_option maxHeartbeats 400000 in
theorem sameU_c (va vb : Value) (xs : List Int) (w : World) (ha : RdU w va xs) (hb : RdU w vb xs) :
    Calls Try.prog 22 #[va, vb] w fun e w' => e = .returned (.bool true) ∧ ∃ n, w' = w.drewN n := by
  obtain ⟨a, ca, rfl, _, hm, hca⟩ := ha
  obtain ⟨b, cb, rfl, _, _, hcb⟩ := hb
  unfold maxLen at hm
  have HA := hid hca
  have HB := hid hcb
  clear hca hcb
  go_enter Try.func22, Try.ntmps22
  go_wp2
  go_loopw [5] (fun i wr => ∃ k n : Nat, k ≤ xs.length ∧ i = .int .i64 k ∧ wr = w.drewN n) (fun i _ => xs.length - (intOf i).toNat)
  case atStart => exact ⟨0, 0, Nat.zero_le _, rfl, rfl⟩
  case round =>
    obtain ⟨k, n, hk, rfl, rfl⟩ := hrel
    by_cases hlt : k < xs.length
    · obtain ⟨b1, off1, rfl, hcell1⟩ := HA.out (by omega)
      obtain ⟨b2, off2, rfl, hcell2⟩ := HB.out (by omega)
      have hu1 := hcell1 k hlt
      have hu2 := hcell2 k hlt
      generalize xs.getD k 0 = x at hu1 hu2
      have hlt' : (k : Int) < (xs.length : Int) := by omega
      clear hcell1 hcell2
      go_wp2
      go_quiet (fail)
      go_wp2
      go_roundw
      case rel => exact ⟨k + 1, _, by omega, by go_num, rfl⟩
      case measure => simp [intOf]; omega
    · go_wp2
      go_ret
      exact ⟨rfl, n, rfl⟩

end Go.Proofs.Qxb6615079a
