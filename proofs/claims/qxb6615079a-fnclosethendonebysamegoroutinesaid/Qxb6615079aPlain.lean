/-
  PLAIN MATHEMATICS on clocks: no world, no walk.
-/
import Derived.Test.Qxb6615079aRead2
namespace Go.Proofs.Qxb6615079a
open Go.RowKit

def padTo (xs : List Int) (n : Nat) : List Int := xs ++ List.replicate (n - xs.length) 0
theorem padTo_length (xs : List Int) (n : Nat) : (padTo xs n).length = max xs.length n := by simp [padTo]; omega
theorem padTo_get (xs : List Int) (n i : Nat) : (padTo xs n).getD i 0 = xs.getD i 0 := by
  unfold padTo
  by_cases h : i < xs.length
  · rw [List.getD_eq_getElem?_getD, List.getD_eq_getElem?_getD, List.getElem?_append_left h]
  · rw [List.getD_eq_getElem?_getD, List.getD_eq_getElem?_getD, List.getElem?_append_right (by omega), List.getElem?_eq_none (by omega : xs.length ≤ i)]
    rw [List.getElem?_replicate]
    split <;> rfl

/-- k more events of goroutine g. -/
def tickL (xs : List Int) (g : Nat) (k : Int) : List Int := (padTo xs (g + 1)).set g ((atN xs g + k) % 4294967296)
theorem tickL_length (xs : List Int) (g : Nat) (k : Int) : (tickL xs g k).length = max xs.length (g + 1) := by simp [tickL, padTo_length]

theorem u32s_pad (xs : List Int) (g n : Nat) (h : n = max xs.length (g + 1)) : u32s xs ++ (List.replicate n (Value.int .u32 0)).drop xs.length = u32s (padTo xs (g + 1)) := by
  subst h
  simp only [u32s, padTo, List.map_append, List.map_replicate, List.drop_replicate]
  congr 2
  omega

theorem u32s_set (xs : List Int) (i : Nat) (x : Int) : u32s (xs.set i x) = (u32s xs).set i (.int .u32 x) := by simp [u32s, List.map_set]

/-- The greatest of both, entry by entry. -/
def joinL (xs ys : List Int) : List Int := (List.range (max xs.length ys.length)).map fun i => if atN xs i < atN ys i then atN ys i else atN xs i
theorem joinL_length (xs ys : List Int) : (joinL xs ys).length = max xs.length ys.length := by simp [joinL]

/-- What the loop of joinU has filled so far. -/
def Half (xs ys : List Int) (n k : Nat) : List Value := u32s ((joinL xs ys).take k) ++ List.replicate (n - k) (.int .u32 0)

theorem half_zero (xs ys : List Int) (n : Nat) : Half xs ys n 0 = List.replicate n (.int .u32 0) := by simp [Half, u32s]
theorem half_all (xs ys : List Int) (n : Nat) (hn : n = max xs.length ys.length) : Half xs ys n n = u32s (joinL xs ys) := by
  have : (joinL xs ys).take n = joinL xs ys := List.take_of_length_le (by rw [joinL_length]; omega)
  simp [Half, this]
theorem half_length (xs ys : List Int) (n k : Nat) (hn : n = max xs.length ys.length) (hk : k ≤ n) : (Half xs ys n k).length = n := by
  simp [Half, joinL_length]; omega
theorem half_set (xs ys : List Int) (n k : Nat) (hn : n = max xs.length ys.length) (hk : k < n) (v : Int) (hv : v = if atN xs k < atN ys k then atN ys k else atN xs k) :
    (Half xs ys n k).set k (.int .u32 v) = Half xs ys n (k + 1) := by
  have hl : (u32s ((joinL xs ys).take k)).length = k := by simp [joinL_length]; omega
  have hk' : k < (joinL xs ys).length := by rw [joinL_length]; omega
  have hg : (joinL xs ys)[k] = v := by simp [joinL, hv]
  unfold Half
  rw [List.set_append_right _ _ (by omega), hl, Nat.sub_self, List.take_succ_eq_append_getElem hk', hg]
  obtain ⟨m, hm⟩ : ∃ m, n - k = m + 1 := ⟨n - k - 1, by omega⟩
  have hm' : n - (k + 1) = m := by omega
  rw [hm, hm', List.replicate_succ]
  simp [u32s]

theorem half_row {w : World} {ow : Nat → Nat × Nat} {tg : Nat × Nat} {g c k n : Nat} {xs ys : List Int} {x : Int} (hn : n = max xs.length ys.length) (hk : k < n)
    (h : Row w ow tg 38 (.slice (some ⟨g, 0, none⟩) n c) (Half xs ys n k)) (hx : x = if atN xs k < atN ys k then atN ys k else atN xs k) :
    Row (w.setCell ⟨g, k, none⟩ (.int .u32 x)) ow tg 38 (.slice (some ⟨g, 0, none⟩) n c) (Half xs ys n (k + 1)) := by
  rw [← half_set xs ys n k hn hk x hx]
  exact (h.set k _).1

end Go.Proofs.Qxb6615079a
