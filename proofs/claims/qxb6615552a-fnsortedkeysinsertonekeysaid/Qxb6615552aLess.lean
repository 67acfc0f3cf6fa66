/-
  zzLess: the walk; the bytes' order.
-/
import Derived.Test.Qxb6615552aScan
namespace Go.Proofs.Qxb6615552a
open Go.RowKit
set_option maxRecDepth 100000

/-- Go's '<' on strings. -/
def ltB (s t : ByteArray) : Bool := decide (s.data.toList < t.data.toList)

theorem lt_app : ∀ (p a b : List UInt8), (p ++ a < p ++ b) ↔ a < b
  | [], a, b => by simp
  | c :: p, a, b => by
    rw [List.cons_append, List.cons_append, List.cons_lt_cons_iff, lt_app p a b]
    simp

/-- Byte k of s, as a number (0 behind the end). -/
def byt (s : ByteArray) (k : Nat) : Int := ((s.data.toList.getD k 0).toNat : Int)
theorem lt_app_iff {x y p a b : List UInt8} (hx : x = p ++ a) (hy : y = p ++ b) : x < y ↔ a < b := by
  rw [hx, hy]; exact lt_app p a b
theorem ba_len (s : ByteArray) : s.data.toList.length = s.size := Array.length_toList

theorem bt_get (s : ByteArray) (k : Nat) (h : k < s.size) : byt s k = ((s.data.toList[k]'(by rw [ba_len]; exact h)).toNat : Int) := by
  have : k < s.data.toList.length := by rw [ba_len]; exact h
  unfold byt; rw [List.getD_eq_getElem?_getD, List.getElem?_eq_getElem this]; rfl
theorem get_byt (s : ByteArray) : ∀ (n : Nat) (h : n < s.size), ((s[n]'h).toNat : Int) = byt s n := fun n h => by
  rw [bt_get s n h]; simp [ByteArray.getElem_eq_getElem_data]

theorem ltB_at (s t : ByteArray) (k : Nat) (hs : k < s.size) (ht : k < t.size) (hp : s.data.toList.take k = t.data.toList.take k) (hne : byt s k ≠ byt t k) : ltB s t = decide (byt s k < byt t k) := by
  have h1 : k < s.data.toList.length := by rw [ba_len]; exact hs
  have h2 : k < t.data.toList.length := by rw [ba_len]; exact ht
  have e1 : s.data.toList = s.data.toList.take k ++ s.data.toList[k] :: s.data.toList.drop (k + 1) := by rw [← List.drop_eq_getElem_cons h1, List.take_append_drop]
  have e2 : t.data.toList = s.data.toList.take k ++ t.data.toList[k] :: t.data.toList.drop (k + 1) := by rw [hp, ← List.drop_eq_getElem_cons h2, List.take_append_drop]
  unfold ltB
  rw [bt_get s k hs, bt_get t k ht] at hne ⊢
  rw [decide_eq_decide]
  rw [lt_app_iff e1 e2, List.cons_lt_cons_iff, UInt8.lt_iff_toNat_lt]
  constructor
  · rintro (h | ⟨h, _⟩)
    · exact Int.ofNat_lt.2 h
    · exact absurd (by rw [h]) hne
  · intro h; exact .inl (Int.ofNat_lt.1 h)

theorem ltB_end (s t : ByteArray) (k : Nat) (hk : k = min s.size t.size) (hp : s.data.toList.take k = t.data.toList.take k) : ltB s t = decide (s.size < t.size) := by
  have hs := ba_len s
  have ht := ba_len t
  unfold ltB
  rw [decide_eq_decide]
  by_cases hst : s.size < t.size
  · have hk' : k = s.size := by omega
    rw [hk', ← hs, List.take_length] at hp
    have hp2 : t.data.toList.take s.size = s.data.toList := by rw [← hs]; exact hp.symm
    have e2 : t.data.toList = s.data.toList ++ t.data.toList.drop s.size := by
      have h3 := List.take_append_drop s.size t.data.toList
      rw [hp2] at h3
      exact h3.symm
    have hne : t.data.toList.drop s.size ≠ [] := by
      intro h; have := congrArg List.length h; simp at this; rw [ba_len] at *; simp at ht; omega
    obtain ⟨c, r, hcr⟩ := List.exists_cons_of_ne_nil hne
    simp only [hst, iff_true]
    rw [e2, hcr]
    have := (lt_app s.data.toList [] (c :: r)).2 (List.nil_lt_cons c r)
    simpa using this
  · have hk' : k = t.size := by omega
    have e1 : s.data.toList = t.data.toList ++ s.data.toList.drop t.size := by
      have h3 := List.take_append_drop t.size s.data.toList
      rw [hk'] at hp
      rw [hp, ← ht, List.take_length, ht] at h3
      exact h3.symm
    simp only [hst, iff_false]
    rw [e1]
    intro h
    have := (lt_app t.data.toList (s.data.toList.drop t.size) []).1 (by simpa using h)
    simp at this

set_option maxHeartbeats 400000 in
theorem less_c (s t : ByteArray) (w : World) (hs : s.size ≤ maxLen) (ht : t.size ≤ maxLen) :
    Calls Try.prog 16 #[.string s, .string t] w fun e w' => e = .returned (.bool (ltB s t)) ∧ ∃ n, w' = w.drewN n := by
  unfold maxLen at hs ht
  have hbs := get_byt s
  have hbt := get_byt t
  go_enter Try.func16, Try.ntmps16
  by_cases hm : t.size < s.size
  all_goals
    go_wp2
    go_loopw [6] (fun i wr => ∃ k n : Nat, k ≤ min s.size t.size ∧ i = .int .i64 k ∧ wr = w.drewN n ∧ Hid (s.data.toList.take k = t.data.toList.take k)) (fun i _ => min s.size t.size - (intOf i).toNat)
    case atStart => exact ⟨0, 0, Nat.zero_le _, rfl, rfl, by simp [Hid]⟩
    case round =>
      obtain ⟨k, n, hk, rfl, hwr, HP⟩ := hrel
      have HWR := hid hwr
      clear hwr
      by_cases hlt : k < min s.size t.size
      · have h1 : k < s.size := by omega
        have h2 : k < t.size := by omega
        have h1' : (k : Int) < (s.size : Int) := by omega
        have h2' : (k : Int) < (t.size : Int) := by omega
        by_cases hne : byt s k = byt t k
        · have hd : (byt s k == byt t k) = true := by simpa using hne
          clear hne
          go_wp2
          go_quiet (fail)
          go_wp2
          go_roundw
          case rel =>
            refine ⟨k + 1, n + nq, by omega, by go_num, by rw [HWR.out]; simp, ?_⟩
            have g1 : k < s.data.toList.length := by rw [ba_len]; exact h1
            have g2 : k < t.data.toList.length := by rw [ba_len]; exact h2
            have hd' : byt s k = byt t k := by simpa using hd
            rw [bt_get s k h1, bt_get t k h2] at hd'
            have e3 : s.data.toList[k] = t.data.toList[k] := UInt8.toNat_inj.1 (Int.ofNat_inj.1 hd')
            show List.take (k + 1) _ = _
            rw [List.take_succ_eq_append_getElem g1, List.take_succ_eq_append_getElem g2, HP.out, e3]
          case measure => simp [intOf]; omega
        · have hd : (byt s k == byt t k) = false := by simpa using hne
          have HE := hid (ltB_at s t k h1 h2 HP.out hne)
          clear hne
          go_wp2
          go_quiet (fail)
          go_wp2
          go_quiet (fail)
          go_wp2
          go_ret
          exact ⟨by rw [HE.out]; rfl, _, by rw [HWR.out]; simp; rfl⟩
      · have HE := hid (ltB_end s t k (by omega) HP.out)
        go_wp2
        go_ret
        exact ⟨by rw [HE.out]; rfl, _, HWR.out⟩

end Go.Proofs.Qxb6615552a
