/-
  THE ARGUMENTS, OPENED.
-/
import Derived.Test.Qxb6615079aBase
import Derived.ProofKit
import Derived.OpenShut
import Derived.Deep.Matrix
import Derived.ChangeOld
import Derived.Below
namespace Go.Proofs.Qxb6615079a
open Go.ChangeShapes Go.WideShapes Go.ChangeAt Go.RowKit Go.Deep

theorem own : ownKnob Try.prog.godebug = none := by kernel_rfl
theorem laidOut : laidOutB Try.prog = true := by kernel_rfl
theorem cells38 : Try.prog.cellsOf 38 = 1 := by kernel_rfl
theorem cells23 : Try.prog.cellsOf 23 = 1 := by kernel_rfl

theorem wf_nonneg {n : Int} (h : (Lit.int .u32 n).wf = true) : 0 ≤ n := by
  exact (bounds_u32 h).1

theorem rdU_of {H : Type} {enc : TypeId × Value → H} {W : World} {fuel : Nat} {a : Option Addr} {len cap : Nat} {x : DataW H × List MemPlace}
    (hf : DataW.trod enc Try.prog W 0 (fun _ => true) true fuel 23 [.slice a len cap] = some x) : ∃ xs, RdU W (.slice a len cap) xs ∧ ∀ n ∈ xs, 0 ≤ n := by
  rcases open_ints Try.underlying23 Try.underlying38 cells38 hf with ⟨hcs, _⟩ | ⟨ad, l, c, zs, hcs, _, hl, hm, hz, _, hcell, hwz⟩
  · simp at hcs
    obtain ⟨rfl, rfl, rfl⟩ := hcs
    exact ⟨[], ⟨none, 0, rfl, fun _ => ⟨rfl, rfl⟩, Nat.zero_le _, fun h => by simp at h⟩, fun n hn => by simp at hn⟩
  · simp at hcs
    obtain ⟨rfl, rfl, rfl⟩ := hcs
    simp only [if_true] at hz
    have hlen : (zs.take len).length = len := by simp; omega
    refine ⟨zs.take len, ⟨some ad, cap, by rw [hlen], (fun h => by cases h), by rw [hlen]; omega, fun hp => ?_⟩, fun n hn => wf_nonneg (hwz n (List.mem_of_mem_take hn))⟩
    rw [hlen] at hp ⊢
    obtain ⟨b, off, spot⟩ := ad
    have hspot : spot = none := by simpa [Addr.add] using World.cell?_spot (hcell 0 (by omega))
    subst hspot
    refine ⟨b, off, rfl, fun i hi => ?_⟩
    have := hcell i (by omega)
    rw [Addr.add_lit] at this
    rw [this]
    simp [hi]

theorem rdUU_of {H : Type} {enc : TypeId × Value → H} {W : World} {fuel : Nat} {a : Option Addr} {len cap : Nat} {x : DataW H × List MemPlace}
    (hf : DataW.trod enc Try.prog W 0 (fun _ => true) true fuel 22 [.slice a len cap] = some x) : ∃ css, RdUU W (.slice a len cap) css ∧ ∀ c ∈ css, ∀ n ∈ c, 0 ≤ n := by
  rcases open_int_rows Try.underlying22 Try.underlying23 Try.underlying38 cells23 cells38 hf with ⟨hcs, _⟩ | ⟨ad, l, c, A, L, C, Z, hcs, _, hl, hm, _, hcell⟩
  · simp at hcs
    obtain ⟨rfl, rfl, rfl⟩ := hcs
    exact ⟨[], ⟨none, 0, rfl, fun _ => ⟨rfl, rfl⟩, Nat.zero_le _, fun h => by simp at h⟩, fun n hn => by simp at hn⟩
  · simp at hcs
    obtain ⟨rfl, rfl, rfl⟩ := hcs
    have hlen : ((List.range len).map fun r => (Z r).take (L r)).length = len := by simp
    refine ⟨(List.range len).map fun r => (Z r).take (L r), ⟨some ad, cap, by rw [hlen], (fun h => by cases h), by rw [hlen]; omega, fun hp => ?_⟩, fun c hc n hn => ?_⟩
    · rw [hlen] at hp
      obtain ⟨b, off, spot⟩ := ad
      have hspot : spot = none := by simpa [Addr.add] using World.cell?_spot (hcell 0 (by omega)).1
      subst hspot
      refine ⟨b, off, rfl, fun i c hi => ?_⟩
      have hil : i < len := by rw [← hlen]; exact (List.getElem?_eq_some_iff.1 hi).1
      have hc : c = (Z i).take (L i) := by simpa [hil] using hi.symm
      subst hc
      obtain ⟨h1, h2, h3, h4, h5, h6, h7⟩ := hcell i (by omega)
      rw [Addr.add_lit] at h1
      have hl2 : ((Z i).take (L i)).length = L i := by simp; omega
      refine ⟨_, h1, A i, C i, by rw [hl2], fun h => ?_, by rw [hl2]; omega, fun hp2 => ?_⟩
      · have := h6 h
        refine ⟨List.eq_nil_of_length_eq_zero (by omega), this⟩
      · rw [hl2] at hp2 ⊢
        cases hA : A i with
        | none => have := h6 hA; omega
        | some a' =>
          obtain ⟨_, hcc⟩ := h7 a' hA
          obtain ⟨b', off', spot'⟩ := a'
          have hspot' : spot' = none := by simpa [Addr.add] using World.cell?_spot (hcc 0 (by omega))
          subst hspot'
          refine ⟨b', off', rfl, fun j hj => ?_⟩
          have := hcc j (by omega)
          rw [Addr.add_lit] at this
          rw [this]
          simp [hj]
    · simp at hc
      obtain ⟨r, hr, rfl⟩ := hc
      obtain ⟨_, _, _, _, h5, _, _⟩ := hcell r (by omega)
      exact wf_nonneg (h5 n (List.mem_of_mem_take hn))

end Go.Proofs.Qxb6615079a
