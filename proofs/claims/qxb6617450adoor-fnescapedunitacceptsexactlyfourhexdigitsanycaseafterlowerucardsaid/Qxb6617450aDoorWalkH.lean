/-
  zzSwapCase; six bytes in a block of the call's own.
-/
import Derived.Test.Qxb6617450aDoorWalkG
import Derived.Test.Qxb6617450aDoorSwap
namespace Go.Proofs.Qxb6617450aDoor
open Go.RowKit

set_option maxHeartbeats 400000 in
theorem swap_int (c : Int) (w : World) (h0 : 0 ≤ c) (h1 : c ≤ 255) :
    Calls Tryd.prog 9 #[.int .u8 c] w fun e w' => e = .returned (.int .u8 (Hx.swv c)) ∧ w' = w := by
  rcases (show (97 ≤ c ∧ c ≤ 122) ∨ (65 ≤ c ∧ c ≤ 90) ∨ c < 65 ∨ (90 < c ∧ c < 97) ∨ 122 < c by omega) with h | h | h | h | h
  all_goals
    go_enter Tryd.func9, Tryd.ntmps9
    go_wp2
    go_ret
    exact ⟨ret_int (by unfold Hx.swv; repeat (first | rw [if_pos (by omega)] | rw [if_neg (by omega)])), rfl⟩

theorem swap_any (u : UInt8) (w : World) : Calls Tryd.prog 9 #[.int .u8 u.toNat] w fun e w' => e = .returned (.int .u8 (Hx.sw u).toNat) ∧ w' = w := by
  have hu := u.toNat_lt
  rw [Hx.sw_toNat]
  exact swap_int _ w (by omega) (by omega)

/-- The block g holds just these six bytes, and may be written. -/
def Six6 (w : World) (g : Nat) (l : List UInt8) : Prop := l.length = 6 ∧ w.ownsRow g 5 1 (.slice (some ⟨g, 0, none⟩) 6 6) 6 (Lib.byteCells l)

theorem Six6.held {w : World} {g : Nat} {l : List UInt8} (h : Six6 w g l) : Held w g l :=
  heldOf (n := 6) (ys := []) (by rw [List.append_nil]; exact h.2) h.1 (Nat.le_refl _)
theorem Six6.cell {w : World} {g : Nat} {l : List UInt8} (h : Six6 w g l) (j : Nat) (hj : j < 6) : w.cell? ⟨g, j, none⟩ = some (.int .u8 (l.getD j 0).toNat) :=
  h.held.cell j (by rw [h.1]; exact hj)
theorem Six6.free {w : World} {g : Nat} {l : List UInt8} (h : Six6 w g l) (j : Nat) : w.frozen? ⟨g, j, none⟩ = false := h.2.frozenAt j
theorem Six6.set {w : World} {g : Nat} {l : List UInt8} (h : Six6 w g l) (j : Nat) (v : UInt8) : Six6 (w.setCell ⟨g, j, none⟩ (.int .u8 v.toNat)) g (l.set j v) := by
  refine ⟨by rw [List.length_set]; exact h.1, ?_⟩
  have e : Lib.byteCells (l.set j v) = (Lib.byteCells l).set j (.int .u8 v.toNat) := by simp [Lib.byteCells, List.map_set]
  rw [e]
  exact (h.2.stored j _).1

end Go.Proofs.Qxb6617450aDoor
