/-
  THE WALKS OF THE ROAD OF THE ERROR: stringslite.Clone, strconv.syntaxError, strconv.toError; then strconv.ParseUint at (16, 16), escapedUnit, ZZescapedUnit.
-/
import Derived.Test.Qxb6617450aDoorWalkB
import Derived.Lib.IfaceEq
import Derived.Shelf.Pu.Clone
import Derived.Lib.AtoiErrMem
import Derived.Laws.MakeOwn
import Derived.Laws.BytesArg
import Derived.Laws.IdiomStrings
import Derived.Deep.RegionWith
namespace Go.Proofs.Qxb6617450aDoor
open Go.RowKit

theorem Tryd.info5 : (Tryd.prog.info? 5).map (fun i => (i.zero, i.size, i.bytes)) = some (some (.int .u8 0), 1, 1) := by kernel_rfl
theorem Tryd.cells5 : Tryd.prog.cellsOf 5 = 1 := by kernel_rfl

/-- The shelf's numbers of what stringslite.Clone reaches, at this dump. -/
def renClone : Shelf.Ren := { f := fun k => if k = 25 then 20 else k, t := fun k => if k = 37 then 22 else if k = 47 then 45 else k, g := fun k => k }
theorem laysClone : LaysPu.n25 Tryd.prog renClone :=
  { mixed := by kernel_rfl
    f25 := by kernel_rfl
    t0 := by kernel_rfl
    a0 := fun _ => by kernel_rfl
    z0 := fun _ => by kernel_rfl
    v0 := fun _ => by kernel_rfl
    i0 := by kernel_rfl
    t3 := by kernel_rfl
    a3 := fun _ => by kernel_rfl
    z3 := fun _ => by kernel_rfl
    v3 := fun _ => by kernel_rfl
    i3 := by kernel_rfl
    t4 := by kernel_rfl
    a4 := fun _ => by kernel_rfl
    z4 := fun _ => by kernel_rfl
    v4 := fun _ => by kernel_rfl
    i4 := by kernel_rfl
    t5 := by kernel_rfl
    a5 := fun _ => by kernel_rfl
    z5 := fun _ => by kernel_rfl
    v5 := fun _ => by kernel_rfl
    i5 := by kernel_rfl
    t9 := by kernel_rfl
    a9 := fun _ => by kernel_rfl
    z9 := fun _ => by kernel_rfl
    v9 := fun _ => by kernel_rfl
    i9 := by kernel_rfl
    t37 := by kernel_rfl
    a37 := fun _ => by kernel_rfl
    z37 := fun _ => by kernel_rfl
    v37 := fun _ => by kernel_rfl
    i37 := by kernel_rfl
    t47 := by kernel_rfl
    a47 := fun _ => by kernel_rfl
    z47 := fun _ => by kernel_rfl
    v47 := fun _ => by kernel_rfl
    i47 := by kernel_rfl }

/-- stringslite.Clone: the same bytes; of what was there nothing has turned (the shelf's contract, laid at this dump). -/
theorem clone_any (s : ByteArray) (w : World) (hlim : s.size ≤ 281474976710656) :
    Calls Tryd.prog 20 #[.string s] w fun e w' => e = .returned (.string s) ∧ Below w.heap.size w w' :=
  AnyPu.stringslite_Clone laysClone s w hlim

set_option maxHeartbeats 6400000 in
set_option maxRecDepth 100000 in
theorem syntaxError_any (fn s : ByteArray) (te : TypeId) (pe : Value) (w : World) (hlim : s.size ≤ 281474976710656) (hv : w.cell? ⟨0, 0, none⟩ = some (.iface te pe)) :
    Calls Tryd.prog 16 #[.string fn, .string s] w fun e w' => ∃ N, e = .returned (.pointer (some ⟨N, 0, none⟩)) ∧ Below w.heap.size w w' := by
  have hG : 0 < w.heap.size := Lib.lt_of_cell hv
  have hvd : w.drew.cell? ⟨0, 0, none⟩ = some (.iface te pe) := hv
  go_enter Tryd.func16, Tryd.ntmps16
  go_wp2
  go_region_with (
      go_at_call 20
      refine (clone_any s _ hlim).mono ?_
      rintro e w2 ⟨rfl, hbel⟩
      have hv2 : w2.cell? ⟨0, 0, none⟩ = some (.iface te pe) := (hbel.cell (show (⟨0, 0, none⟩ : Addr).block < w.drew.heap.size from hG)).trans hvd)
  all_goals (
    go_wp2
    go_ret
    have hs2 : w.heap.size ≤ w2.heap.size := hbel.size
    exact ⟨_, rfl, ((Below.drew (Below.refl _ w)).trans hbel).alloc hs2 _⟩)

theorem Tryd.comp34 : (Tryd.prog.info? 34).map (·.comparable) = some true := by kernel_rfl

set_option maxHeartbeats 4000000 in
set_option maxRecDepth 100000 in
theorem toError_any (fn s : ByteArray) (base bits : Int) (te : TypeId) (pe : Value) (w : World) (hlim : s.size ≤ 281474976710656) (hv : w.cell? ⟨0, 0, none⟩ = some (.iface te pe)) :
    Calls Tryd.prog 13 #[.string fn, .string s, .int .i64 base, .int .i64 bits, .iface 34 (.int .i64 2)] w fun e w' => ∃ N, e = .returned (.iface 37 (.pointer (some ⟨N, 0, none⟩))) ∧ Below w.heap.size w w' := by
  have heq : ∀ W, (binOp .eql 30 (.iface 34 (.int .i64 2)) (.iface 34 (.int .i64 2))).run Tryd.prog W = .ok (.bool true) W := fun W => Lib.run_eql_iface_int W 2 2 Tryd.underlying30 Tryd.comp34 Tryd.underlying34
  go_enter Tryd.func13, Tryd.ntmps13
  go_wp2_with (go_at_call 16; refine (syntaxError_any fn s te pe _ hlim hv).mono ?_)
  rintro e w2 ⟨N, rfl, h3⟩
  go_wp2
  go_ret
  exact ⟨N, rfl, h3⟩

set_option maxHeartbeats 4000000 in
set_option maxRecDepth 100000 in
/-- strconv.ParseUint(t, 16, 16), t of one to four bytes: the number and no error. -/
theorem parse_yes (t : ByteArray) (n : Int) (hne : t.size ≠ 0) (hmax : t.size ≤ 4) (w : World) (hn : Hx.hexRun 0 t.data.toList = some n) :
    Calls Tryd.prog 11 #[.string t, .int .i64 16, .int .i64 16] w fun e w' => e = .returned (.tuple #[.int .u64 n, .nilIface]) ∧ Below w.heap.size w w' := by
  have H := Lib.hid hn
  clear hn
  go_enter Tryd.func11, Tryd.ntmps11
  go_wp2_with fail
  refine (parse16_any t hne hmax _).mono ?_
  rintro e w' ⟨rfl, rfl⟩
  rw [H.out]
  unfold outHex
  have hb := Lib.bytesWorld_below w 5 t
  generalize Lib.bytesWorld w 5 t = W1 at *
  go_wp2
  go_ret2
  exact ⟨rfl, hb⟩

set_option maxHeartbeats 4000000 in
set_option maxRecDepth 100000 in
/-- strconv.ParseUint(t, 16, 16), t of one to four bytes: an error that is not nil. -/
theorem parse_no (t : ByteArray) (te : TypeId) (pe : Value) (hne : t.size ≠ 0) (hmax : t.size ≤ 4) (w : World) (hv : w.cell? ⟨0, 0, none⟩ = some (.iface te pe)) (hn : Hx.hexRun 0 t.data.toList = none) :
    Calls Tryd.prog 11 #[.string t, .int .i64 16, .int .i64 16] w fun e w' => ∃ N, e = .returned (.tuple #[.int .u64 0, .iface 37 (.pointer (some ⟨N, 0, none⟩))]) ∧ Below w.heap.size w w' := by
  have H := Lib.hid hn
  clear hn
  go_enter Tryd.func11, Tryd.ntmps11
  go_wp2_with fail
  refine (parse16_any t hne hmax _).mono ?_
  rintro e w' ⟨rfl, rfl⟩
  rw [H.out]
  unfold outHex
  have hb := Lib.bytesWorld_below w 5 t
  have hv1 : (Lib.bytesWorld w 5 t).cell? ⟨0, 0, none⟩ = some (.iface te pe) := (hb.cell (p := ⟨0, 0, none⟩) (Lib.lt_of_cell hv)).trans hv
  generalize Lib.bytesWorld w 5 t = W1 at *
  go_wp2_with fail
  refine (toError_any _ t 16 16 te pe W1 (by omega) hv1).mono ?_
  rintro e w2 ⟨N, rfl, h3⟩
  go_wp2
  go_ret2
  exact ⟨N, rfl, hb.trans (h3.mono hb.size)⟩

end Go.Proofs.Qxb6617450aDoor
