/-
  THE WALKS of ZZclock, sameState.
-/
import Derived.Test.Qxb6615079aModel2
namespace Go.Proofs.Qxb6615079a
open Go.RowKit
set_option maxRecDepth 100000

theorem zclock_c (mb g n c k : Nat) (a : Option Addr) (l cc : Nat) (w : World) (_hn : n ≤ 1000000000) (hk : k < n) (h1 : w.cell? ⟨mb, 1, none⟩ = some (.slice (some ⟨g, 0, none⟩) n c)) (h2 : w.cell? ⟨g, k, none⟩ = some (.slice a l cc)) :
    Calls Try.prog 52 #[.pointer (some ⟨mb, 0, none⟩), .int .i64 k] w fun e w' => e = .returned (.slice a l cc) ∧ w' = w := by
  go_enter Try.func52, Try.ntmps52
  go_wp2
  go_ret
  exact ⟨rfl, rfl⟩

set_option maxHeartbeats 800000 in
theorem sameState_c (mb t : Nat) (css : List (List Int)) (vw : Value) (w : World) (ow : Nat → Nat × Nat) (hm : css.length ≤ 1000000000) (h : Mdl w ow t mb css) (hw : RdUU w vw css) :
    Calls Try.prog 27 #[.pointer (some ⟨mb, 0, none⟩), vw] w fun e w' => e = .returned (.bool true) ∧ ∃ n, w' = w.drewN n := by
  obtain ⟨v, vs, hbox, hrow, hrows⟩ := h
  obtain ⟨a, c, rfl⟩ := hrow.shape
  obtain ⟨aw, cw, rfl, _, _, hcw⟩ := hw
  have hl := hrows.1
  rw [hl] at hrow hbox
  have hcell := hbox.cell
  have HR := hid hrow
  have HS := hid hrows
  have HW := hid hcw
  clear hrow hrows hcw hl hbox
  go_enter Try.func27, Try.ntmps27
  go_wp2_with (first | (go_at_call 51; go_in) | fail)
  go_loopw [5] (fun i wr => ∃ k n : Nat, k ≤ css.length ∧ i = .int .i64 k ∧ wr = w.drewN n) (fun i _ => css.length - (intOf i).toNat)
  case atStart => exact ⟨0, 0, Nat.zero_le _, rfl, rfl⟩
  case round =>
    obtain ⟨k, n, hk, rfl, hwr⟩ := hrel
    by_cases hlt : k < css.length
    · obtain ⟨x, hx⟩ : ∃ x, css[k]? = some x := ⟨css[k], by simp⟩
      obtain ⟨u, hu, hru⟩ := HS.out.2 k x hx
      obtain ⟨au, cu, rfl⟩ := hru.shape
      have hrd : RdU wr (.slice au (u32s x).length cu) x := by rw [hwr]; exact hru.rd
      obtain ⟨b, off, rfl, hcellw⟩ := HW.out (by omega)
      obtain ⟨uw, huw0, hruw⟩ := hcellw k x hx
      have hrdw : RdU wr uw x := by rw [hwr]; exact hruw
      obtain ⟨auw, cuw, rfl, _, _, _⟩ := hruw
      have hfm := HR.out.form
      rw [HS.out.1] at hfm
      rcases hfm with ⟨_, h0⟩ | ⟨g, cap, hv, _, _, _, _⟩
      · have := HS.out.1; rw [h0] at this; simp at this; omega
      obtain ⟨rfl, rfl⟩ : a = some ⟨g, 0, none⟩ ∧ c = cap := by cases hv; exact ⟨rfl, rfl⟩
      have hck : wr.cell? ⟨g, k, none⟩ = some (.slice au (u32s x).length cu) := by rw [hwr]; exact HR.out.cell hu
      have hc1 : wr.cell? ⟨mb, 1, none⟩ = some (.slice (some ⟨g, 0, none⟩) css.length c) := by rw [hwr]; exact hcell
      have huw : wr.cell? ⟨b, off + k, none⟩ = some (.slice auw x.length cuw) := by rw [hwr]; exact huw0
      have hlt' : (k : Int) < (css.length : Int) := by omega
      have hc52 : ∀ m, Calls Try.prog 52 #[.pointer (some ⟨mb, 0, none⟩), .int .i64 k] (wr.drewN m) fun e w' => e = .returned (.slice au (u32s x).length cu) ∧ w' = wr.drewN m :=
        fun m => zclock_c mb g css.length c k au (u32s x).length cu (wr.drewN m) hm hlt hc1 hck
      have hc22 : ∀ m, Calls Try.prog 22 #[.slice au (u32s x).length cu, .slice auw x.length cuw] (wr.drewN m) fun e w' => e = .returned (.bool true) ∧ ∃ j, w' = (wr.drewN m).drewN j :=
        fun m => sameU_c _ _ x (wr.drewN m) hrd hrdw
      simp only [u32s_length] at hc52 hc22 hck
      have HWR := hid hwr
      clear hv hrd hrdw hru hcellw hu hx hcell huw0 hwr
      go_wp2
      go_quiet ((first | (go_at_call 52; exact Calls.quiet_of_same (hc52 _)) | (go_at_call 22; exact Calls.quiet_of (hc22 _))))
      go_wp2
      go_roundw
      case rel => exact ⟨k + 1, n + nq, by omega, by go_num, by rw [HWR.out]; simp⟩
      case measure => simp [intOf]; omega
    · go_wp2
      go_ret
      exact ⟨rfl, n, rfl⟩

end Go.Proofs.Qxb6615079a
