/-
  THE WALKS that only read: the bounds on total length (zzBytes..), nestedBytes.
-/
import Derived.Test.Qxb6615079aBase2
namespace Go.Proofs.Qxb6615079a
open Go.RowKit
set_option maxRecDepth 100000

/-- Some bool is returned. -/
def IsB (e : Ending) : Prop := ∃ b : Bool, e = .returned (.bool b)
theorem IsB.mk (b : Bool) : IsB (.returned (.bool b)) := ⟨b, rfl⟩

set_option maxHeartbeats 1000000 in
theorem zz29 (v : Value) (css : List (List Int)) (child : Int) (vd : Value) (ds : List Int) (w : World) (hr : RdUU w v css) (hd : RdU w vd ds) :
    Calls Try.prog 29 #[v, .int .i64 child, vd] w fun e w' => IsB e ∧ w' = w := by
  obtain ⟨a, cap, rfl, h0, hm, hc⟩ := hr
  obtain ⟨ad, cd, rfl, _, hmd, _⟩ := hd
  unfold maxLen at hmd
  unfold maxLen at hm
  have HC := hid hc
  clear hc h0
  go_enter Try.func29, Try.ntmps29
  go_wp2
  · go_ret; exact ⟨IsB.mk _, rfl⟩
  go_loop [7, 8] (fun z i => ∃ k q : Nat, k ≤ css.length ∧ i = .int .i64 k ∧ q ≤ 1048576 ∧ z = .int .i64 q) (fun _ i => css.length - (intOf i).toNat)
  case atStart => exact ⟨0, css.length, Nat.zero_le _, rfl, by omega, rfl⟩
  case round =>
    obtain ⟨k, q, hk, rfl, hq, rfl⟩ := hrel
    by_cases hlt : k < css.length
    · obtain ⟨b, off, rfl, hcell⟩ := HC.out (by omega)
      obtain ⟨x, hx⟩ : ∃ x, css[k]? = some x := ⟨css[k], by simp⟩
      obtain ⟨u, hu, hru⟩ := hcell k x hx
      obtain ⟨au, cu, rfl, _, hml, _⟩ := hru
      unfold maxLen at hml
      clear hx hcell
      go_wp2
      · go_ret; exact ⟨IsB.mk _, rfl⟩
      · go_ret; exact ⟨IsB.mk _, rfl⟩
      · go_round
        case rel => exact ⟨k + 1, q + x.length, by omega, by go_num, by omega, by go_num⟩
        case measure => simp [intOf]; omega
    · go_wp2
      all_goals (go_ret; exact ⟨IsB.mk _, rfl⟩)

set_option maxHeartbeats 1000000 in
theorem zz11 (v : Value) (css : List (List Int)) (g cp sn : Int) (vd : Value) (ds : List Int) (w : World) (hr : RdUU w v css) (hd : RdU w vd ds) :
    Calls Try.prog 11 #[v, .int .i64 g, .int .i64 cp, .int .i64 sn, vd] w fun e w' => IsB e ∧ w' = w := by
  obtain ⟨a, cap, rfl, h0, hm, hc⟩ := hr
  obtain ⟨ad, cd, rfl, _, hmd, _⟩ := hd
  unfold maxLen at hmd
  unfold maxLen at hm
  have HC := hid hc
  clear hc h0
  go_enter Try.func11, Try.ntmps11
  go_wp2
  · go_ret; exact ⟨IsB.mk _, rfl⟩
  go_loop [11, 12] (fun z i => ∃ k q : Nat, k ≤ css.length ∧ i = .int .i64 k ∧ q ≤ 1048576 ∧ z = .int .i64 q) (fun _ i => css.length - (intOf i).toNat)
  case atStart => exact ⟨0, css.length, Nat.zero_le _, rfl, by omega, rfl⟩
  case round =>
    obtain ⟨k, q, hk, rfl, hq, rfl⟩ := hrel
    by_cases hlt : k < css.length
    · obtain ⟨b, off, rfl, hcell⟩ := HC.out (by omega)
      obtain ⟨x, hx⟩ : ∃ x, css[k]? = some x := ⟨css[k], by simp⟩
      obtain ⟨u, hu, hru⟩ := hcell k x hx
      obtain ⟨au, cu, rfl, _, hml, _⟩ := hru
      unfold maxLen at hml
      clear hx hcell
      go_wp2
      · go_ret; exact ⟨IsB.mk _, rfl⟩
      · go_ret; exact ⟨IsB.mk _, rfl⟩
      · go_round
        case rel => exact ⟨k + 1, q + x.length, by omega, by go_num, by omega, by go_num⟩
        case measure => simp [intOf]; omega
    · go_wp2
      all_goals (go_ret; exact ⟨IsB.mk _, rfl⟩)

set_option maxHeartbeats 1000000 in
theorem zz31 (v : Value) (css : List (List Int)) (g h : Int) (w : World) (hr : RdUU w v css) :
    Calls Try.prog 31 #[v, .int .i64 g, .int .i64 h] w fun e w' => IsB e ∧ w' = w := by
  obtain ⟨a, cap, rfl, h0, hm, hc⟩ := hr
  unfold maxLen at hm
  have HC := hid hc
  clear hc h0
  go_enter Try.func31, Try.ntmps31
  go_wp2
  · go_ret; exact ⟨IsB.mk _, rfl⟩
  go_loop [7, 8] (fun z i => ∃ k q : Nat, k ≤ css.length ∧ i = .int .i64 k ∧ q ≤ 1048576 ∧ z = .int .i64 q) (fun _ i => css.length - (intOf i).toNat)
  case atStart => exact ⟨0, css.length, Nat.zero_le _, rfl, by omega, rfl⟩
  case round =>
    obtain ⟨k, q, hk, rfl, hq, rfl⟩ := hrel
    by_cases hlt : k < css.length
    · obtain ⟨b, off, rfl, hcell⟩ := HC.out (by omega)
      obtain ⟨x, hx⟩ : ∃ x, css[k]? = some x := ⟨css[k], by simp⟩
      obtain ⟨u, hu, hru⟩ := hcell k x hx
      obtain ⟨au, cu, rfl, _, hml, _⟩ := hru
      unfold maxLen at hml
      clear hx hcell
      go_wp2
      · go_ret; exact ⟨IsB.mk _, rfl⟩
      · go_ret; exact ⟨IsB.mk _, rfl⟩
      · go_round
        case rel => exact ⟨k + 1, q + x.length, by omega, by go_num, by omega, by go_num⟩
        case measure => simp [intOf]; omega
    · go_wp2
      all_goals (go_ret; exact ⟨IsB.mk _, rfl⟩)

set_option maxHeartbeats 1000000 in
theorem zz33 (v : Value) (css : List (List Int)) (g dlt : Int) (vd : Value) (ds : List Int) (w : World) (hr : RdUU w v css) (hd : RdU w vd ds) :
    Calls Try.prog 33 #[v, .int .i64 g, vd, .int .i64 dlt] w fun e w' => IsB e ∧ w' = w := by
  obtain ⟨a, cap, rfl, h0, hm, hc⟩ := hr
  obtain ⟨ad, cd, rfl, _, hmd, _⟩ := hd
  unfold maxLen at hmd
  unfold maxLen at hm
  have HC := hid hc
  clear hc h0
  go_enter Try.func33, Try.ntmps33
  go_wp2
  · go_ret; exact ⟨IsB.mk _, rfl⟩
  go_loop [9, 10] (fun z i => ∃ k q : Nat, k ≤ css.length ∧ i = .int .i64 k ∧ q ≤ 1048576 ∧ z = .int .i64 q) (fun _ i => css.length - (intOf i).toNat)
  case atStart => exact ⟨0, css.length, Nat.zero_le _, rfl, by omega, rfl⟩
  case round =>
    obtain ⟨k, q, hk, rfl, hq, rfl⟩ := hrel
    by_cases hlt : k < css.length
    · obtain ⟨b, off, rfl, hcell⟩ := HC.out (by omega)
      obtain ⟨x, hx⟩ : ∃ x, css[k]? = some x := ⟨css[k], by simp⟩
      obtain ⟨u, hu, hru⟩ := hcell k x hx
      obtain ⟨au, cu, rfl, _, hml, _⟩ := hru
      unfold maxLen at hml
      clear hx hcell
      go_wp2
      · go_ret; exact ⟨IsB.mk _, rfl⟩
      · go_ret; exact ⟨IsB.mk _, rfl⟩
      · go_round
        case rel => exact ⟨k + 1, q + x.length, by omega, by go_num, by omega, by go_num⟩
        case measure => simp [intOf]; omega
    · go_wp2
      all_goals (go_ret; exact ⟨IsB.mk _, rfl⟩)

set_option maxHeartbeats 1000000 in
theorem zz34 (v : Value) (css : List (List Int)) (g h dg dh : Int) (vd : Value) (ds : List Int) (w : World) (hr : RdUU w v css) (hd : RdU w vd ds) :
    Calls Try.prog 34 #[v, .int .i64 g, .int .i64 h, vd, .int .i64 dg, .int .i64 dh] w fun e w' => IsB e ∧ w' = w := by
  obtain ⟨a, cap, rfl, h0, hm, hc⟩ := hr
  obtain ⟨ad, cd, rfl, _, hmd, _⟩ := hd
  unfold maxLen at hmd
  unfold maxLen at hm
  have HC := hid hc
  clear hc h0
  go_enter Try.func34, Try.ntmps34
  go_wp2
  · go_ret; exact ⟨IsB.mk _, rfl⟩
  go_loop [13, 14] (fun z i => ∃ k q : Nat, k ≤ css.length ∧ i = .int .i64 k ∧ q ≤ 1048576 ∧ z = .int .i64 q) (fun _ i => css.length - (intOf i).toNat)
  case atStart => exact ⟨0, css.length, Nat.zero_le _, rfl, by omega, rfl⟩
  case round =>
    obtain ⟨k, q, hk, rfl, hq, rfl⟩ := hrel
    by_cases hlt : k < css.length
    · obtain ⟨b, off, rfl, hcell⟩ := HC.out (by omega)
      obtain ⟨x, hx⟩ : ∃ x, css[k]? = some x := ⟨css[k], by simp⟩
      obtain ⟨u, hu, hru⟩ := hcell k x hx
      obtain ⟨au, cu, rfl, _, hml, _⟩ := hru
      unfold maxLen at hml
      clear hx hcell
      go_wp2
      · go_ret; exact ⟨IsB.mk _, rfl⟩
      · go_ret; exact ⟨IsB.mk _, rfl⟩
      · go_round
        case rel => exact ⟨k + 1, q + x.length, by omega, by go_num, by omega, by go_num⟩
        case measure => simp [intOf]; omega
    · go_wp2
      all_goals (go_ret; exact ⟨IsB.mk _, rfl⟩)

end Go.Proofs.Qxb6615079a
