/-
  No cell of these rows narrows 'for every input' (looked for: loops, veiled, ifaces, maps, wideKeys, modest, calm, conditions, laid).
  DERIVED. THE GIVEN ROWS OF THIS SEAT. 1 by the template 'for every input the law returns true; each argument reads behind the call as it read before'; 0 by the template 'total and deterministic' (their statements: Qxb6619638aTotals.lean).
  GIVEN WITH THE SEED: the statements are not yours to turn. If you find one false, say at which input.
  Laid BY PROGRAM, IN A SANDBOX (cutbox-rows.mjs): the forced cells as the released guide's own fill.sh prints them over the translation 629271bf9701a574… (all of the seat's roots in one cut). By AI agents, Wed Nov 11 2026. No macro, syntax, notation, axiom, sorry.
-/
import Derived.Test.Qxb6619638aChecked
import GoSem.Claim
import GoSem.ClaimJoined
import GoSem.ClaimMapViews
import Derived.JoinedTies
import Derived.KernelRfl
namespace Go.Proofs.Qxb6619638a
/- THE CELL 'sum', in the pinned program and in every row, IS THE sha256 OF THE DUMP (.gsa) THAT Qxb6619638aProg.lean LOADS. Nothing in Lean hashes anything: it is a label: what it is worth is what the hold of that sum in a sandbox is worth. -/
noncomputable def Try.pinned : Pinned := { name := "qxb6619638a", sum := "629271bf9701a5748b8eb12cb33995b87854960c97e5aef8d867a1f6684746ce", checked := Try.checked }
namespace Rows
def none {H : Type} : Left H := { results := [], args := [] }

/-- 'zzlaws_erpc_b1.FnPairSigilKinds': WHATEVER THE INPUT: true; the input reads as it did. -/
def fnPairSigilKindsSpec : ChangeSpec := { name := "fnPairSigilKinds", fn := fun _ => fun
  | [d1, d2, d3, d4] => { results := [.lit (.bool true)], args := [d1, d2, d3, d4] }
  | _ => none }
def fnPairSigilKindsRow : OpenClaim := { program := "qxb6619638a", sum := "629271bf9701a5748b8eb12cb33995b87854960c97e5aef8d867a1f6684746ce", func := "example.com/idiolect/idiolect/zzlaws_erpc_b1.FnPairSigilKinds", spec := "fnPairSigilKinds", apart := false }
def FnPairSigilKindsSaid : Prop := fnPairSigilKindsRow.holds Try.pinned (OpenSpec.ofChange fnPairSigilKindsSpec)

/-- ITS FALSE NEIGHBOUR: 'it returns false'. Refute it at one input. -/
def fnPairSigilKindsWrong : ChangeSpec := { name := "fnPairSigilKinds", fn := fun _ => fun
  | [d1, d2, d3, d4] => { results := [.lit (.bool false)], args := [d1, d2, d3, d4] }
  | _ => none }
def FnPairSigilKindsWrongFalsely : Prop := fnPairSigilKindsRow.holds Try.pinned (OpenSpec.ofChange fnPairSigilKindsWrong)

end Rows
end Go.Proofs.Qxb6619638a
