/-
  FnSliceIsTheRunsBytes: the arguments opened; the row, out of the walk. The frame is the guide's own shell, turned to a slice of slices.
-/
import Derived.Test.Qxb6619618aWalkE
import Derived.ProofKit
import Derived.OpenShut
import Derived.ShutString
import Derived.ChangeOld
import Derived.Deep.Matrix
namespace Go.Proofs.Qxb6619618a
open Go.ChangeShapes Go.WideShapes Go.ChangeAt Go.RowKit

theorem own : ownKnob Try.prog.godebug = none := by kernel_rfl
theorem laidOut : laidOutB Try.prog = true := by kernel_rfl
theorem cells25 : Try.prog.cellsOf 25 = 1 := by kernel_rfl
theorem cells5 : Try.prog.cellsOf 5 = 1 := by kernel_rfl
theorem cells3 : Try.prog.cellsOf 3 = 1 := by kernel_rfl

theorem u8_back (n : Int) (h : (Lit.int .u8 n).wf = true) : ((UInt8.ofNat n.toNat).toNat : Int) = n := by
  have h1 : IntKind.u8.min = 0 := rfl
  have h2 : IntKind.u8.max = 255 := rfl
  simp only [Lit.wf, Bool.and_eq_true, decide_eq_true_eq, h1, h2] at h
  rw [UInt8.toNat_ofNat_of_lt' (by show _ < 256; omega)]
  omega

/-- What the walk is told of the pieces that came in. -/
theorem open_pieces {H : Type} {enc : TypeId × Value → H} {W : World} {base : Nat} {held : Bool} {fuel : Nat} {a0 : Option Addr} {len cap : Nat} {x : DataW H × List MemPlace}
    (hf : DataW.trod enc Try.prog W base (fun _ => true) held fuel 22 (Value.slice a0 len cap).cells.toList = some x) :
    ∃ ps, PV W a0 len ps ∧ len ≤ 9223372036854775807 := by
  rcases Deep.open_int_rows Try.underlying22 Try.underlying25 Try.underlying5 cells25 cells5 hf with ⟨hcs, _⟩ | ⟨a, l, c, A, L, C, Z, hcs, _, hl, hm, _, hr⟩
  · simp [Value.cells] at hcs
    obtain ⟨rfl, rfl, rfl⟩ := hcs
    exact ⟨[], ⟨rfl, .inl rfl⟩, by omega⟩
  · simp [Value.cells] at hcs
    obtain ⟨rfl, rfl, rfl⟩ := hcs
    unfold maxLen at hm
    refine ⟨(List.range len).map fun r => ⟨A r, L r, C r, ((Z r).take (L r)).map fun n => UInt8.ofNat n.toNat⟩, ⟨by simp, ?_⟩, by omega⟩
    by_cases h0 : len = 0
    · exact .inl h0
    obtain ⟨b, off, e⟩ : ∃ b off, a = ⟨b, off, none⟩ := by
      have h1 := (hr 0 (by omega)).1
      obtain ⟨b, off, spot⟩ := a
      have hs : spot = none := by simpa [Addr.add] using World.cell?_spot h1
      subst hs
      exact ⟨b, off, rfl⟩
    subst e
    refine .inr ⟨b, off, rfl, fun j hj => ?_⟩
    obtain ⟨h1, h2, h3, h4, h5, h6, h7⟩ := hr j (by omega)
    unfold maxLen at h3
    have hg : ((List.range len).map fun r => (⟨A r, L r, C r, ((Z r).take (L r)).map fun n => UInt8.ofNat n.toNat⟩ : Pc)).getD j pc0 = ⟨A j, L j, C j, ((Z j).take (L j)).map fun n => UInt8.ofNat n.toNat⟩ := by
      simp [List.getD, hj]
    rw [hg]
    refine ⟨by rw [← Go.WideShapes.add_plain]; exact h1, by simp only [List.length_map, List.length_take]; omega, h2, h3, ?_⟩
    show L j = 0 ∨ _
    by_cases hl0 : L j = 0
    · exact .inl hl0
    cases hA : A j with
    | none => have := h6 hA; omega
    | some a' =>
      obtain ⟨_, h8⟩ := h7 a' hA
      obtain ⟨pb, po, spot⟩ := a'
      have hs : spot = none := by simpa [Addr.add] using World.cell?_spot (h8 0 (by omega))
      subst hs
      refine .inr ⟨pb, po, rfl, fun t ht => ?_⟩
      have ht' : t < L j := ht
      have htz : t < (Z j).length := by omega
      have hb := u8_back (Z j)[t] (h5 _ (List.getElem_mem htz))
      have hz : (Z j).getD t 0 = (Z j)[t] := by simp [List.getD, List.getElem?_eq_getElem htz]
      have hgt : (((Z j).take (L j)).map fun n => UInt8.ofNat n.toNat).getD t 0 = UInt8.ofNat ((Z j)[t]).toNat := by
        simp [List.getD, ht', List.getElem?_eq_getElem htz]
      show W.cell? ⟨pb, po + t, none⟩ = some (.int .u8 (((((Z j).take (L j)).map fun n => UInt8.ofNat n.toNat).getD t 0).toNat : Int))
      rw [hgt, hb, ← hz, ← Go.WideShapes.add_plain]
      exact h8 t (by omega)

/-- What the walk is told of the ends that came in. -/
theorem open_ends {H : Type} {enc : TypeId × Value → H} {W : World} {base : Nat} {held : Bool} {fuel : Nat} {a0 : Option Addr} {len cap : Nat} {x : DataW H × List MemPlace}
    (hf : DataW.trod enc Try.prog W base (fun _ => true) held fuel 23 (Value.slice a0 len cap).cells.toList = some x) :
    ∃ es, IRow W a0 len cap es ∧ len ≤ 9223372036854775807 := by
  rcases open_ints Try.underlying23 Try.underlying3 cells3 hf with ⟨hcs, _⟩ | ⟨a, l, c, zs, hcs, _, hl, hm, hz, _, hcell, _⟩
  · simp [Value.cells] at hcs
    obtain ⟨rfl, rfl, rfl⟩ := hcs
    exact ⟨[], ⟨rfl, Nat.le_refl _, fun _ => ⟨rfl, rfl⟩, fun ad e => by cases e⟩, by omega⟩
  · simp [Value.cells] at hcs
    obtain ⟨rfl, rfl, rfl⟩ := hcs
    have hz' : zs.length = cap := by simpa using hz
    unfold maxLen at hm
    refine ⟨zs.take len, ⟨by rw [List.length_take]; omega, hl, (fun e => by cases e), fun ad e j u hu => ?_⟩, by omega⟩
    cases e
    have hj : j < len := by
      have := (List.getElem?_eq_some_iff.1 hu).1
      simp [intCells] at this
      omega
    have hg : (zs.take len).getD j 0 = zs.getD j 0 := by simp [List.getD, hj]
    rw [intCells_get _ j (by rw [List.length_take]; omega), hg] at hu
    rw [← hu]; exact hcell j (by omega)

namespace fnSliceIsTheRunsBytes

set_option maxRecDepth 100000 in
theorem lifted (os : Os) (started : os.Started) (H : Type) (enc : TypeId × Value → H) :
    ReturnsInHanded {} Try.checked os 3 .any (Rows.fnSliceIsTheRunsBytesSpec.pre6 enc Try.prog Try.f3 Rows.fnSliceIsTheRunsBytesRow.domain false) (Rows.fnSliceIsTheRunsBytesSpec.post enc Try.prog Try.f3 false true false false) := by
  refine returnsInHanded_of_change (C := Try.checked) own started (by kernel_rfl) Try.func3
    (ChangeSpec.witness6 (enc := enc) (C := Try.checked) false ⟨#[], #[.slice none 0 0, .slice none 0 0, .int .i64 0, .int .i64 0], []⟩ 8 (by kernel_rfl) (by kernel_rfl) (by kernel_rfl) (by kernel_rfl)) ?_
  intro W base args ds gs before hval0 hW _ _
  have hval : ∀ (j : Nat) t v, Try.f3.params[j]? = some t → args[j]? = some v → Value.okWide Try.prog W .any base t v := hval0
  have hW' := hW
  obtain ⟨p, q, hA0, hV, rfl, hfz, hnd⟩ := hW
  have hA : DataW.TrodAll enc Try.prog W 0 (fun _ => true) true Try.f3.params.toList args.toList ds p := hA0
  rw [Try.params3] at hA hval
  obtain ⟨v0, vs0, d0, ds0, p0, q0, hargs, rfl, rfl, h0, r0⟩ := trodAll_cons hA
  obtain ⟨v1, vs1, d1, ds1, p1, q1, rfl, rfl, rfl, h1, r1⟩ := trodAll_cons r0
  obtain ⟨v2, vs2, d2, ds2, p2, q2, rfl, rfl, rfl, h2, r2⟩ := trodAll_cons r1
  obtain ⟨v3, vs3, d3, ds3, p3, q3, rfl, rfl, rfl, h3, r3⟩ := trodAll_cons r2
  obtain ⟨rfl, rfl, rfl⟩ := trodAll_nil r3
  obtain rfl : args = #[v0, v1, v2, v3] := by cases args; simp_all
  obtain ⟨rfl, rfl⟩ := trodVars_none hV
  obtain ⟨a0, len0, cap0, rfl⟩ := okWide_slice Try.underlying22 (hval 0 22 v0 rfl rfl)
  have k0 := h0
  have lt0 : ∀ x ∈ p0, x.block < W.heap.size := by obtain ⟨m, hm⟩ := k0; exact DataW.trod_lt m _ _ _ hm
  obtain ⟨ps, s0, b0⟩ : ∃ ps, PV W a0 len0 ps ∧ len0 ≤ 9223372036854775807 := by
    obtain ⟨fuel, hf⟩ := h0
    exact open_pieces hf
  obtain ⟨a1, len1, cap1, rfl⟩ := okWide_slice Try.underlying23 (hval 1 23 v1 rfl rfl)
  have k1 := h1
  have lt1 : ∀ x ∈ p1, x.block < W.heap.size := by obtain ⟨m, hm⟩ := k1; exact DataW.trod_lt m _ _ _ hm
  obtain ⟨es, s1, b1⟩ : ∃ es, IRow W a1 len1 cap1 es ∧ len1 ≤ 9223372036854775807 := by
    obtain ⟨fuel, hf⟩ := h1
    exact open_ends hf
  obtain ⟨x2, rfl, rfl, rfl, w2⟩ := open_int Try.underlying3 (hval 2 3 v2 rfl rfl) h2
  obtain ⟨x3, rfl, rfl, rfl, w3⟩ := open_int Try.underlying3 (hval 3 3 v3 rfl rfl) h3
  clear hA0 hval0
  refine (law_walk a0 a1 len0 cap0 len1 cap1 ps es x2 x3 W s0 s1 b0 b1).mono fun e W' ⟨he, bel⟩ => ?_
  subst he
  exact ⟨_, rfl, _, _, _, [], _, [], hW', trodAll_mk1 (shut_bool Try.underlying4 _), (trodAll_cons_mk (Below.trod laidOut (by kernel_rfl) (of_decide_eq_true (by kernel_rfl)) k0 bel lt0) (trodAll_cons_mk (Below.trod laidOut (by kernel_rfl) (of_decide_eq_true (by kernel_rfl)) k1 bel lt1) (trodAll_cons_mk (shut_int Try.underlying3 w2) (trodAll_cons_mk (shut_int Try.underlying3 w3) trodAll_mk0)))), rfl, bel.frame _, fun h => by cases h⟩

theorem over : Rows.fnSliceIsTheRunsBytesRow.holds Try.pinned (OpenSpec.ofChange Rows.fnSliceIsTheRunsBytesSpec) :=
  OpenClaim.holds_of_wide 3 Try.f3 rfl rfl rfl rfl rfl rfl rfl ⟨rfl, rfl, rfl, rfl, rfl⟩ rfl rfl rfl rfl rfl (by kernel_rfl) Try.func3 (by kernel_rfl)
    (of_decide_eq_true (by kernel_rfl)) (by unfold Func.isWrapper; first | (rw [if_pos (by decide +kernel)]; kernel_rfl) | (rw [if_neg (by decide +kernel)]; exact ⟨rfl, rfl⟩))
    (fun os started H enc _ => lifted os started H enc)

/-- ████ THE STATEMENT ████ -/
theorem proved : Rows.FnSliceIsTheRunsBytesSaid := over
end fnSliceIsTheRunsBytes
end Go.Proofs.Qxb6619618a
