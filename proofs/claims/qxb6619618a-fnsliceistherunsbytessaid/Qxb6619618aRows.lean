/-
  No cell of these rows narrows 'for every input' (looked for: loops, veiled, ifaces, maps, wideKeys, modest, calm, conditions, laid).
  DERIVED. THE GIVEN ROWS OF THIS SEAT. 4 by the template 'for every input the law returns true; each argument reads behind the call as it read before'; 0 by the template 'total and deterministic' (their statements: Qxb6619618aTotals.lean).
  GIVEN WITH THE SEED: the statements are not yours to turn. If you find one false, say at which input.
  Laid BY PROGRAM, IN A SANDBOX (cutbox-rows.mjs): the forced cells as the released guide's own fill.sh prints them over the translation 162dba3c774b5133… (all of the seat's roots in one cut). By AI agents, Wed Nov 11 2026. No macro, syntax, notation, axiom, sorry.
-/
import Derived.Test.Qxb6619618aChecked
import GoSem.Claim
import GoSem.ClaimJoined
import GoSem.ClaimMapViews
import Derived.JoinedTies
import Derived.KernelRfl
namespace Go.Proofs.Qxb6619618a
/- THE CELL 'sum', in the pinned program and in every row, IS THE sha256 OF THE DUMP (.gsa) THAT Qxb6619618aProg.lean LOADS. Nothing in Lean hashes anything: it is a label: what it is worth is what the hold of that sum in a sandbox is worth. -/
noncomputable def Try.pinned : Pinned := { name := "qxb6619618a", sum := "162dba3c774b5133b72247e077ccdb17f0bc616a0d392858effbb18c9790ab9d", checked := Try.checked }
namespace Rows
def none {H : Type} : Left H := { results := [], args := [] }

/-- 'zzlaws_internal_logcore_b1.FnSliceIsTheRunsBytes': WHATEVER THE INPUT: true; the input reads as it did. -/
def fnSliceIsTheRunsBytesSpec : ChangeSpec := { name := "fnSliceIsTheRunsBytes", fn := fun _ => fun
  | [d1, d2, d3, d4] => { results := [.lit (.bool true)], args := [d1, d2, d3, d4] }
  | _ => none }
def fnSliceIsTheRunsBytesRow : OpenClaim := { program := "qxb6619618a", sum := "162dba3c774b5133b72247e077ccdb17f0bc616a0d392858effbb18c9790ab9d", func := "example.com/concordat/concordat/zzlaws_internal_logcore_b1.FnSliceIsTheRunsBytes", spec := "fnSliceIsTheRunsBytes", apart := false }
def FnSliceIsTheRunsBytesSaid : Prop := fnSliceIsTheRunsBytesRow.holds Try.pinned (OpenSpec.ofChange fnSliceIsTheRunsBytesSpec)

/-- ITS FALSE NEIGHBOUR: 'it returns false'. Refute it at one input. -/
def fnSliceIsTheRunsBytesWrong : ChangeSpec := { name := "fnSliceIsTheRunsBytes", fn := fun _ => fun
  | [d1, d2, d3, d4] => { results := [.lit (.bool false)], args := [d1, d2, d3, d4] }
  | _ => none }
def FnSliceIsTheRunsBytesWrongFalsely : Prop := fnSliceIsTheRunsBytesRow.holds Try.pinned (OpenSpec.ofChange fnSliceIsTheRunsBytesWrong)

/-- 'zzlaws_internal_logcore_b1.FnSliceJoinsAtAnyCut': WHATEVER THE INPUT: true; the input reads as it did. -/
def fnSliceJoinsAtAnyCutSpec : ChangeSpec := { name := "fnSliceJoinsAtAnyCut", fn := fun _ => fun
  | [d1, d2, d3, d4, d5] => { results := [.lit (.bool true)], args := [d1, d2, d3, d4, d5] }
  | _ => none }
def fnSliceJoinsAtAnyCutRow : OpenClaim := { program := "qxb6619618a", sum := "162dba3c774b5133b72247e077ccdb17f0bc616a0d392858effbb18c9790ab9d", func := "example.com/concordat/concordat/zzlaws_internal_logcore_b1.FnSliceJoinsAtAnyCut", spec := "fnSliceJoinsAtAnyCut", apart := false }
def FnSliceJoinsAtAnyCutSaid : Prop := fnSliceJoinsAtAnyCutRow.holds Try.pinned (OpenSpec.ofChange fnSliceJoinsAtAnyCutSpec)

/-- ITS FALSE NEIGHBOUR: 'it returns false'. Refute it at one input. -/
def fnSliceJoinsAtAnyCutWrong : ChangeSpec := { name := "fnSliceJoinsAtAnyCut", fn := fun _ => fun
  | [d1, d2, d3, d4, d5] => { results := [.lit (.bool false)], args := [d1, d2, d3, d4, d5] }
  | _ => none }
def FnSliceJoinsAtAnyCutWrongFalsely : Prop := fnSliceJoinsAtAnyCutRow.holds Try.pinned (OpenSpec.ofChange fnSliceJoinsAtAnyCutWrong)

/-- 'zzlaws_internal_logcore_b1.FnSettleOneSeq': WHATEVER THE INPUT: true; the input reads as it did. -/
def fnSettleOneSeqSpec : ChangeSpec := { name := "fnSettleOneSeq", fn := fun _ => fun
  | [d1, d2, d3] => { results := [.lit (.bool true)], args := [d1, d2, d3] }
  | _ => none }
def fnSettleOneSeqRow : OpenClaim := { program := "qxb6619618a", sum := "162dba3c774b5133b72247e077ccdb17f0bc616a0d392858effbb18c9790ab9d", func := "example.com/concordat/concordat/zzlaws_internal_logcore_b1.FnSettleOneSeq", spec := "fnSettleOneSeq", apart := false }
def FnSettleOneSeqSaid : Prop := fnSettleOneSeqRow.holds Try.pinned (OpenSpec.ofChange fnSettleOneSeqSpec)

/-- ITS FALSE NEIGHBOUR: 'it returns false'. Refute it at one input. -/
def fnSettleOneSeqWrong : ChangeSpec := { name := "fnSettleOneSeq", fn := fun _ => fun
  | [d1, d2, d3] => { results := [.lit (.bool false)], args := [d1, d2, d3] }
  | _ => none }
def FnSettleOneSeqWrongFalsely : Prop := fnSettleOneSeqRow.holds Try.pinned (OpenSpec.ofChange fnSettleOneSeqWrong)

/-- 'zzlaws_internal_logcore_b1.FnSettleScriptInAnyOrder': WHATEVER THE INPUT: true; the input reads as it did. -/
def fnSettleScriptInAnyOrderSpec : ChangeSpec := { name := "fnSettleScriptInAnyOrder", fn := fun _ => fun
  | [d1, d2] => { results := [.lit (.bool true)], args := [d1, d2] }
  | _ => none }
def fnSettleScriptInAnyOrderRow : OpenClaim := { program := "qxb6619618a", sum := "162dba3c774b5133b72247e077ccdb17f0bc616a0d392858effbb18c9790ab9d", func := "example.com/concordat/concordat/zzlaws_internal_logcore_b1.FnSettleScriptInAnyOrder", spec := "fnSettleScriptInAnyOrder", apart := false }
def FnSettleScriptInAnyOrderSaid : Prop := fnSettleScriptInAnyOrderRow.holds Try.pinned (OpenSpec.ofChange fnSettleScriptInAnyOrderSpec)

/-- ITS FALSE NEIGHBOUR: 'it returns false'. Refute it at one input. -/
def fnSettleScriptInAnyOrderWrong : ChangeSpec := { name := "fnSettleScriptInAnyOrder", fn := fun _ => fun
  | [d1, d2] => { results := [.lit (.bool false)], args := [d1, d2] }
  | _ => none }
def FnSettleScriptInAnyOrderWrongFalsely : Prop := fnSettleScriptInAnyOrderRow.holds Try.pinned (OpenSpec.ofChange fnSettleScriptInAnyOrderWrong)

end Rows
end Go.Proofs.Qxb6619618a
