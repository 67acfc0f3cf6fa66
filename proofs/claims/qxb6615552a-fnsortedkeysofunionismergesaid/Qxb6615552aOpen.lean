/-
  A MAP THAT CAME IN: what the form reads, in the walks' words.
-/
import Derived.Test.Qxb6615552aKeys
import Derived.ProofKit
import Derived.OpenShut
import Derived.ShutString
import Derived.ChangeOld
namespace Go.Proofs.Qxb6615552a
open Go.ChangeShapes Go.WideShapes Go.ChangeAt Go.RowKit Go.WideElems Go.Maps

theorem ownK : ownKnob Try.prog.godebug = none := by kernel_rfl
theorem laidOutK : laidOutB Try.prog = true := by kernel_rfl

theorem mapIs_of {H : Type} {enc : TypeId × Value → H} {W : World} {a0 : Option Nat} {d0 : DataW H} {p : List MemPlace} (h : DataW.Trod enc Try.prog W 0 (fun _ => true) true 22 (.map a0) d0 p) : ∃ ks n, MapIs W a0 ks n ∧ n ≤ maxLen := by
  obtain ⟨fuel, hf⟩ := h
  rcases open_map Try.underlying22 hf with ⟨hcs, hx⟩ | ⟨bm, es, clock, m, rfl, hcs, hb, _, F, hx⟩
  · simp [Value.cells] at hcs
    subst hcs
    exact ⟨fun _ => false, 0, .inl ⟨rfl, fun _ => rfl, rfl⟩, Nat.zero_le _⟩
  · simp [Value.cells] at hcs
    subst hcs
    have hown := World.ownsMap_of_fit (R := plainElem Try.prog 9) hb F (fun x _ z hz => elemAt_plainElem_string Try.underlying9 hz)
    exact ⟨_, _, .inr ⟨H, bm, _, _, rfl, hown, fun _ => rfl, rfl⟩, Nat.le_trans hown.size_le F.size⟩

end Go.Proofs.Qxb6615552a
