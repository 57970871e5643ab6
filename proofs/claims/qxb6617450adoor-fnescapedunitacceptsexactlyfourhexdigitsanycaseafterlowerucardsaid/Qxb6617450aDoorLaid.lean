/-
  WHAT BOTH ROWS SHARE: the listed variables as the door lays them; what they give the walks; a byte slice that came in, as its bytes.
-/
import Derived.Test.Qxb6617450aDoorWalkG
import Derived.ProofKit
import Derived.OpenShut
import Derived.ShutString
import Derived.ChangeOld
import Derived.LaidMore
import Derived.Stop.Joined
import Derived.Stop.LaidErr
namespace Go.Proofs.Qxb6617450aDoor
open Go.ChangeShapes Go.WideShapes Go.ChangeAt Go.RowKit

theorem own : ownKnob Tryd.prog.godebug = none := by kernel_rfl
theorem laidOut : laidOutB Tryd.prog = true := by kernel_rfl

/-- The listed variables (both rows list the same). -/
def laid5 : List (String × DataW Unit) := Rows.fnEscapedUnitIsPlaceValueOfItsDigitsRow.laid

theorem gES : Tryd.prog.globalNamed "strconv.ErrSyntax" = some 0 := by kernel_rfl
theorem gESType : (Tryd.prog.globals[0]?).map (·.type) = some 30 := by kernel_rfl
theorem cells48 : Tryd.prog.cellsOf 48 = 1 := by kernel_rfl
theorem cells9 : Tryd.prog.cellsOf 9 = 1 := by kernel_rfl
theorem of_laid {W : World} (h : laidMetH Tryd.prog laid5 W) : ∃ te pe, W.cell? ⟨0, 0, none⟩ = some (.iface te pe) := by
  rw [MakeChecks.laidMetH_plain _ _ _ (by kernel_rfl)] at h
  have h1 : laidMet Tryd.prog [("strconv.ErrSyntax", Rows.laid_strconv_ErrSyntax)] W := h.tail.tail.tail.tail
  obtain ⟨a0, s0, hv0, -, -, -⟩ := laid_sentinel h1 gES gESType Tryd.underlying30 (fun u hu => typeName_ptr_named (nm := "errors.errorString") (tp := 46) (by kernel_rfl) (by kernel_rfl) (by decide) u (hu.trans (by decide))) Tryd.underlying46 Tryd.underlying48 rfl rfl Tryd.underlying9 cells48 cells9
  exact ⟨46, .pointer (some a0), by have h0 := World.var?_cell gES hv0 0; simpa using h0⟩

/-- The door's own heap meets the condition. -/
theorem door_met (os : Os) (args : Array Value) : laidMetH Tryd.prog laid5 ((World.doorLaid Tryd.prog 62 os).forCall (fun _ _ => 0) ⟨#[], args, []⟩).memory :=
  laidMetH_of_parts3 (fuel := 8) (laidMet_of_run' 8 (by kernel_rfl) (by kernel_rfl)) (by kernel_rfl) (by kernel_rfl)

/-- WHAT THE WALK IS TOLD OF A SLICE OF INTEGERS THAT CAME IN. -/
def IsRow (k : IntKind) (w : World) (a : Option Addr) (len cap : Nat) (zs : List Int) : Prop :=
  (a = none ∧ len = 0 ∧ cap = 0 ∧ zs = []) ∨
  ∃ x, a = some x ∧ len ≤ cap ∧ cap ≤ maxLen ∧ zs.length = cap ∧ (∀ i, i < zs.length → w.cell? (x.add i) = some (.int k (zs.getD i 0))) ∧ ∀ n ∈ zs, (Lit.int k n).wf = true

theorem u8_back (n : Int) (h : (Lit.int .u8 n).wf = true) : ((UInt8.ofNat n.toNat).toNat : Int) = n := by
  have h1 : IntKind.u8.min = 0 := rfl
  have h2 : IntKind.u8.max = 255 := rfl
  simp only [Lit.wf, Bool.and_eq_true, decide_eq_true_eq, h1, h2] at h
  rw [UInt8.toNat_ofNat_of_lt' (by show _ < 256; omega)]
  omega

theorem rowOf {w : World} {a : Option Addr} {len cap : Nat} {zs : List Int} (h : IsRow .u8 w a len cap zs) : ∃ bs, Row w a len cap bs ∧ len ≤ 9223372036854775807 := by
  rcases h with ⟨rfl, rfl, rfl, rfl⟩ | ⟨x, rfl, hl, hm, hz, hc, hw⟩
  · exact ⟨[], ⟨rfl, Nat.le_refl _, fun _ => ⟨rfl, rfl⟩, fun ad e => by cases e⟩, by omega⟩
  · unfold maxLen at hm
    refine ⟨(zs.take len).map fun n => UInt8.ofNat n.toNat, ⟨by simp; omega, hl, fun e => (by cases e), fun ad e j u hu => ?_⟩, by omega⟩
    cases e
    have hj : j < len := by
      have := (List.getElem?_eq_some_iff.1 hu).1
      simp [Lib.byteCells] at this
      omega
    have hjz : j < zs.length := by omega
    have hb := u8_back zs[j] (hw _ (List.getElem_mem hjz))
    have hg : zs.getD j 0 = zs[j] := by simp [List.getD, List.getElem?_eq_getElem hjz]
    simp only [Lib.byteCells, List.map_map, List.getElem?_map, List.getElem?_take, if_pos hj, List.getElem?_eq_getElem hjz, Option.map_some, Function.comp, Option.some.injEq] at hu
    rw [hc j hjz, hg, ← hu, hb]

end Go.Proofs.Qxb6617450aDoor
