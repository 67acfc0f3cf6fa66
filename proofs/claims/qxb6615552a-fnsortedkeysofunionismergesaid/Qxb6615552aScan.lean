/-
  THE WALKS of the bound on total length, ZZnewScanner, ZZatLineEnd.
-/
import Derived.Test.Qxb6615552aBase
import Derived.Deep.QuietTactic
import Derived.BigQuiet
namespace Go.Proofs.Qxb6615552a
open Go.RowKit
set_option maxRecDepth 100000

def IsB (e : Ending) : Prop := ∃ b : Bool, e = .returned (.bool b)
theorem IsB.mk (b : Bool) : IsB (.returned (.bool b)) := ⟨b, rfl⟩

set_option maxHeartbeats 400000 in
theorem zz12 (nm : ByteArray) (a : Option Addr) (n c : Nat) (p l s : Int) (w : World) (h1 : nm.size ≤ maxLen) (h2 : n ≤ maxLen) :
    Calls Try.prog 12 #[.string nm, .slice a n c, .int .i64 p, .int .i64 l, .int .i64 s] w fun e w' => IsB e ∧ w' = w := by
  unfold maxLen at h1 h2
  go_enter Try.func12, Try.ntmps12
  go_wp2
  all_goals (go_ret; exact ⟨IsB.mk _, rfl⟩)

theorem newScanner_c (nm : ByteArray) (a : Option Addr) (n c : Nat) (p l s : Int) (w : World) :
    Calls Try.prog 14 #[.string nm, .slice a n c, .int .i64 p, .int .i64 l, .int .i64 s] w fun e w' => e = .returned (.pointer (some ⟨w.heap.size, 0, none⟩)) ∧ w' = w.alloc (.cells #[.string nm, .slice a n c, .int .i64 p, .int .i64 l, .int .i64 s] 46) := by
  go_enter Try.func14, Try.ntmps14
  go_wp2
  go_ret
  exact ⟨rfl, rfl⟩

/-- Is place p a line end of zs? -/
def lineEnd (zs : List Int) (p : Nat) : Bool := if p < zs.length then zs.getD p 0 == 10 else true

set_option maxHeartbeats 400000 in
theorem atEnd_c (sb n c p : Nat) (a : Option Addr) (zs : List Int) (w : World) (hn : n = zs.length) (hp : p ≤ n) (hm : n ≤ 1000000) (h1 : w.cell? ⟨sb, 1, none⟩ = some (.slice a n c)) (h2 : w.cell? ⟨sb, 2, none⟩ = some (.int .i64 p)) (hr : RdB w (.slice a n c) zs) :
    Calls Try.prog 13 #[.pointer (some ⟨sb, 0, none⟩)] w fun e w' => e = .returned (.bool (lineEnd zs p)) ∧ ∃ k, w' = w.drewN k := by
  have HN := hid hn
  by_cases hlt : p < n
  · obtain ⟨a', c', hv, _, _, hc⟩ := hr
    obtain ⟨rfl, rfl⟩ : a = a' ∧ c = c' := by cases hv; exact ⟨rfl, rfl⟩
    obtain ⟨b, off, rfl, hcell⟩ := hc (by omega)
    have hu := hcell p (by omega)
    have hb : lineEnd zs p = (zs.getD p 0 == 10) := by unfold lineEnd; rw [if_pos (by omega)]
    rw [hb]
    generalize zs.getD p 0 = x at hu ⊢
    have hpe : ((p : Int) == (n : Int)) = false := by simp; omega
    have hp0 : (p : Int) < (n : Int) := by omega
    clear hcell hc hb hv hn
    go_enter Try.func13, Try.ntmps13
    go_wp2
    go_quiet (fail)
    go_wp2
    go_ret
    exact ⟨rfl, _, rfl⟩
  · have hb : lineEnd zs p = true := by unfold lineEnd; rw [if_neg (by omega)]
    rw [hb]
    have hpe : ((p : Int) == (n : Int)) = true := by simp; omega
    clear hr hb hn
    go_enter Try.func13, Try.ntmps13
    go_wp2
    go_quiet (fail)
    go_wp2
    go_ret
    exact ⟨rfl, _, rfl⟩

end Go.Proofs.Qxb6615552a
