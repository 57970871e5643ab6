/-
  THE WALK OF FnEscapedUnitAcceptsExactlyFourHexDigitsAnyCaseAfterLowerU: too long; nil; fewer than six bytes.
-/
import Derived.Test.Qxb6617450aDoorWalkI
import Derived.Test.Qxb6617450aDoorWalkJ
import Derived.Test.Qxb6617450aDoorWalkK
import Derived.Test.Qxb6617450aDoorWalkL
namespace Go.Proofs.Qxb6617450aDoor
open Go.RowKit

set_option maxHeartbeats 400000 in
theorem accept_big (p : Option Addr) (n c : Nat) (w : World) (hn : n ≤ 9223372036854775807) (h : 1048576 < n) :
    Calls Tryd.prog 4 #[.slice p n c] w fun e w' => e = .returned (.bool true) ∧ Below w.heap.size w w' := by
  go_enter Tryd.func4, Tryd.ntmps4
  go_wp2_with (go_at_call 8; refine (bytes1_no p n c _ hn h).mono ?_; rintro e w' ⟨rfl, rfl⟩)
  go_ret
  exact ⟨rfl, Below.refl _ _⟩

set_option maxHeartbeats 400000 in
theorem accept_nil (w : World) :
    Calls Tryd.prog 4 #[.slice none 0 0] w fun e w' => e = .returned (.bool true) ∧ Below w.heap.size w w' := by
  go_enter Tryd.func4, Tryd.ntmps4
  go_wp2_with fail
  refine (bytes1_yes none 0 0 _ (by omega)).mono ?_
  rintro e w ⟨rfl, rfl⟩
  go_wp2_with fail
  refine (zz_short none 0 0 _ (by omega)).mono ?_
  rintro e w ⟨rfl, rfl⟩
  go_wp2
  go_ret
  exact ⟨rfl, Below.refl _ _⟩

set_option maxHeartbeats 400000 in
theorem accept_short (ad : Addr) (n c : Nat) (bs : List UInt8) (w : World) (hR : Row w (some ad) n c bs) (hn : n < 6) :
    Calls Tryd.prog 4 #[.slice (some ad) n c] w fun e w' => e = .returned (.bool true) ∧ Below w.heap.size w w' := by
  obtain ⟨M, W1, hmk, hcp, hb1, hs1, hH⟩ := copied w ad n c bs hR (by omega)
  have HB := Lib.hid hb1
  clear hR hb1 hs1 hH
  go_enter Tryd.func4, Tryd.ntmps4
  go_wp2_with fail
  refine (bytes1_yes (some ad) n c _ (by omega)).mono ?_
  rintro e w ⟨rfl, rfl⟩
  go_wp2_with fail
  refine (zz_short _ n n _ hn).mono ?_
  rintro e W1 ⟨rfl, rfl⟩
  go_wp2
  go_ret
  exact ⟨rfl, HB.out⟩

end Go.Proofs.Qxb6617450aDoor
