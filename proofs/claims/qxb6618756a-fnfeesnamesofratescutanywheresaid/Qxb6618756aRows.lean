/-
  No cell of these rows narrows 'for every input' (looked for: loops, veiled, ifaces, maps, wideKeys, modest, calm, conditions, laid).
  DERIVED. THE GIVEN ROWS OF THIS SEAT. 2 by the template 'for every input the law returns true; each argument reads behind the call as it read before'; 0 by the template 'total and deterministic' (their statements: Qxb6618756aTotals.lean).
  GIVEN WITH THE SEED: the statements are not yours to turn. If you find one false, say at which input.
  Laid BY PROGRAM, IN A SANDBOX (cutbox-rows.mjs): the forced cells as the released guide's own fill.sh prints them over the translation 2b252d8fd3e73bac… (all of the seat's roots in one cut). By AI agents, Wed Nov 11 2026. No macro, syntax, notation, axiom, sorry.
-/
import Derived.Test.Qxb6618756aChecked
import GoSem.Claim
import GoSem.ClaimJoined
import GoSem.ClaimMapViews
import Derived.JoinedTies
import Derived.KernelRfl
namespace Go.Proofs.Qxb6618756a
/- THE CELL 'sum', in the pinned program and in every row, IS THE sha256 OF THE DUMP (.gsa) THAT Qxb6618756aProg.lean LOADS. Nothing in Lean hashes anything: it is a label: what it is worth is what the hold of that sum in a sandbox is worth. -/
noncomputable def Try.pinned : Pinned := { name := "qxb6618756a", sum := "2b252d8fd3e73bac1ae232d0abb007ae731414923b57dec40d4501d62efdcbaa", checked := Try.checked }
namespace Rows
def none {H : Type} : Left H := { results := [], args := [] }

/-- 'zzlaws_internal_terms_b1.FnFeesNamesAreTheDistinctNamesInFirstOrder': WHATEVER THE INPUT: true; the input reads as it did. -/
def fnFeesNamesAreTheDistinctNamesInFirstOrderSpec : ChangeSpec := { name := "fnFeesNamesAreTheDistinctNamesInFirstOrder", fn := fun _ => fun
  | [d1, d2, d3, d4] => { results := [.lit (.bool true)], args := [d1, d2, d3, d4] }
  | _ => none }
def fnFeesNamesAreTheDistinctNamesInFirstOrderRow : OpenClaim := { program := "qxb6618756a", sum := "2b252d8fd3e73bac1ae232d0abb007ae731414923b57dec40d4501d62efdcbaa", func := "example.com/tuoguan/tuoguan/zzlaws_internal_terms_b1.FnFeesNamesAreTheDistinctNamesInFirstOrder", spec := "fnFeesNamesAreTheDistinctNamesInFirstOrder", apart := false }
def FnFeesNamesAreTheDistinctNamesInFirstOrderSaid : Prop := fnFeesNamesAreTheDistinctNamesInFirstOrderRow.holds Try.pinned (OpenSpec.ofChange fnFeesNamesAreTheDistinctNamesInFirstOrderSpec)

/-- ITS FALSE NEIGHBOUR: 'it returns false'. Refute it at one input. -/
def fnFeesNamesAreTheDistinctNamesInFirstOrderWrong : ChangeSpec := { name := "fnFeesNamesAreTheDistinctNamesInFirstOrder", fn := fun _ => fun
  | [d1, d2, d3, d4] => { results := [.lit (.bool false)], args := [d1, d2, d3, d4] }
  | _ => none }
def FnFeesNamesAreTheDistinctNamesInFirstOrderWrongFalsely : Prop := fnFeesNamesAreTheDistinctNamesInFirstOrderRow.holds Try.pinned (OpenSpec.ofChange fnFeesNamesAreTheDistinctNamesInFirstOrderWrong)

/-- 'zzlaws_internal_terms_b1.FnFeesNamesOfRatesCutAnywhere': WHATEVER THE INPUT: true; the input reads as it did. -/
def fnFeesNamesOfRatesCutAnywhereSpec : ChangeSpec := { name := "fnFeesNamesOfRatesCutAnywhere", fn := fun _ => fun
  | [d1, d2, d3] => { results := [.lit (.bool true)], args := [d1, d2, d3] }
  | _ => none }
def fnFeesNamesOfRatesCutAnywhereRow : OpenClaim := { program := "qxb6618756a", sum := "2b252d8fd3e73bac1ae232d0abb007ae731414923b57dec40d4501d62efdcbaa", func := "example.com/tuoguan/tuoguan/zzlaws_internal_terms_b1.FnFeesNamesOfRatesCutAnywhere", spec := "fnFeesNamesOfRatesCutAnywhere", apart := false }
def FnFeesNamesOfRatesCutAnywhereSaid : Prop := fnFeesNamesOfRatesCutAnywhereRow.holds Try.pinned (OpenSpec.ofChange fnFeesNamesOfRatesCutAnywhereSpec)

/-- ITS FALSE NEIGHBOUR: 'it returns false'. Refute it at one input. -/
def fnFeesNamesOfRatesCutAnywhereWrong : ChangeSpec := { name := "fnFeesNamesOfRatesCutAnywhere", fn := fun _ => fun
  | [d1, d2, d3] => { results := [.lit (.bool false)], args := [d1, d2, d3] }
  | _ => none }
def FnFeesNamesOfRatesCutAnywhereWrongFalsely : Prop := fnFeesNamesOfRatesCutAnywhereRow.holds Try.pinned (OpenSpec.ofChange fnFeesNamesOfRatesCutAnywhereWrong)

end Rows
end Go.Proofs.Qxb6618756a
