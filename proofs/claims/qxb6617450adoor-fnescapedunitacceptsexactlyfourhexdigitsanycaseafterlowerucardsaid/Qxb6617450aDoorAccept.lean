/-
  FnEscapedUnitAcceptsExactlyFourHexDigitsAnyCaseAfterLowerU: the row, out of the walks; then the tied card. The frame is the guide's own shell (proof-skeleton.mjs), turned to a row that lists variables.
-/
import Derived.Test.Qxb6617450aDoorWalkM
import Derived.Test.Qxb6617450aDoorLaid
import Derived.Test.Qxb6617450aDoorTie
import Derived.Test.Qxb6617450aDoorCards
import Derived.SevenTiedAt
namespace Go.Proofs.Qxb6617450aDoor.fnEscapedUnitAcceptsExactlyFourHexDigitsAnyCaseAfterLowerU
open Go.ChangeShapes Go.WideShapes Go.ChangeAt Go.RowKit
open Go.ChangeMaps (open_string shut_string)
set_option linter.unusedVariables false


theorem walk (a0 : Option Addr) (len0 cap0 : Nat) (z0 : List Int) (w : World) (w0 : IsRow .u8 w a0 len0 cap0 z0) (te : TypeId) (pe : Value) (hv : w.cell? ⟨0, 0, none⟩ = some (.iface te pe)) :
    Calls Tryd.prog 4 #[.slice a0 len0 cap0] w fun e w' => e = .returned (.bool true) ∧ Below w.heap.size w w' := by
  obtain ⟨bs, R0, b0⟩ := rowOf w0
  by_cases hbig : 1048576 < len0
  · exact accept_big a0 len0 cap0 w b0 hbig
  cases a0 with
  | none =>
    obtain ⟨rfl, rfl⟩ := R0.nil rfl
    exact accept_nil w
  | some ad =>
    by_cases h6 : len0 < 6
    · exact accept_short ad len0 cap0 bs w R0 h6
    by_cases h0 : (bs.getD 0 0).toNat = 92
    · by_cases h1 : (bs.getD 1 0).toNat = 117
      · cases hall : Hx.allTo bs 4 with
        | true => exact accept_yes ad len0 cap0 bs te pe w R0 (by omega) (by omega) hv h0 h1 hall
        | false => exact accept_no ad len0 cap0 bs te pe w R0 (by omega) (by omega) hv h0 h1 hall
      · exact accept_other1 ad len0 cap0 bs te pe w R0 (by omega) (by omega) hv h0 (bs.getD 1 0) rfl (beq_eq_false_iff_ne.2 (by omega))
    · exact accept_other0 ad len0 cap0 bs te pe w R0 (by omega) (by omega) hv (bs.getD 0 0) rfl (beq_eq_false_iff_ne.2 (by omega))

/-! ### THE ROW's STEP: WRITTEN OUT: LEAVE IT -/
set_option maxRecDepth 100000 in
theorem lifted (os : Os) (started : os.Started) (H : Type) (enc : TypeId × Value → H) :
    ReturnsInHanded {} Tryd.checked os 4 .any (fun w args => (Rows.fnEscapedUnitAcceptsExactlyFourHexDigitsAnyCaseAfterLowerUSpec.pre enc Tryd.prog Tryd.f4 [] false w args ∧ laidMetH Tryd.prog laid5 w) ∧ sizedMet enc Tryd.prog Tryd.f4 (OpenSpec.ofChange Rows.fnEscapedUnitAcceptsExactlyFourHexDigitsAnyCaseAfterLowerUSpec) false w args)
      (Rows.fnEscapedUnitAcceptsExactlyFourHexDigitsAnyCaseAfterLowerUSpec.post enc Tryd.prog Tryd.f4 false true false false) := by
  refine returnsInHanded_of_change_and (C := Tryd.checked) (X := fun w _ => laidMetH Tryd.prog laid5 w) (fun _ _ _ hh h => h.of_heap hh) own started (by kernel_rfl) Tryd.func4
    (ChangeSpec.witness_shaped (enc := enc) (C := Tryd.checked) (os := os) (X := fun w _ => laidMetH Tryd.prog laid5 w) false (World.doorLaid Tryd.prog 62 os) #[.slice none 0 0] 8 rfl (World.shaped_of_RefB (by kernel_rfl) (by kernel_rfl)) (by kernel_rfl) (by kernel_rfl) (by kernel_rfl) (door_met os _)) ?_
  intro W base args ds gs before hval0 hW _ _ hL _
  obtain ⟨te, pe, hv⟩ := of_laid hL
  have hval : ∀ (j : Nat) t v, Tryd.f4.params[j]? = some t → args[j]? = some v → Value.okWide Tryd.prog W .any base t v := hval0
  have hW' := hW
  obtain ⟨p, q, hA0, hV, rfl, hfz, hnd⟩ := hW
  have hA : DataW.TrodAll enc Tryd.prog W 0 (fun _ => true) true Tryd.f4.params.toList args.toList ds p := hA0
  rw [Tryd.params4] at hA hval
  obtain ⟨v0, vs0, d0, ds0, p0, q0, hargs, rfl, rfl, h0, r0⟩ := trodAll_cons hA
  obtain ⟨rfl, rfl, rfl⟩ := trodAll_nil r0
  obtain rfl : args = #[v0] := by cases args; simp_all
  obtain ⟨rfl, rfl⟩ := trodVars_none hV
  obtain ⟨a0, len0, cap0, rfl⟩ := okWide_slice Tryd.underlying22 (hval 0 22 v0 rfl rfl)
  have k0 := h0
  have lt0 : ∀ x ∈ p0, x.block < W.heap.size := by obtain ⟨m, hm⟩ := k0; exact DataW.trod_lt m _ _ _ hm
  obtain ⟨z0, w0⟩ : ∃ zs, IsRow .u8 W a0 len0 cap0 zs := by
    obtain ⟨fuel, hf⟩ := h0
    rcases open_ints Tryd.underlying22 Tryd.underlying5 (by kernel_rfl) hf with ⟨hcs, _⟩ | ⟨x, l, c, zs, hcs, _, hl, hm, hz, _, hcell, hwz⟩
    · simp [Value.cells] at hcs
      obtain ⟨rfl, rfl, rfl⟩ := hcs
      exact ⟨[], .inl ⟨rfl, rfl, rfl, rfl⟩⟩
    · simp [Value.cells] at hcs
      obtain ⟨rfl, rfl, rfl⟩ := hcs
      exact ⟨zs, .inr ⟨_, rfl, hl, hm, by simpa using hz, hcell, hwz⟩⟩
  clear hA0 hval0
  refine (walk a0 len0 cap0 z0 W w0 te pe hv).mono fun e W' ⟨he, bel⟩ => ?_
  subst he
  exact ⟨_, rfl, _, _, _, [], _, [], hW', trodAll_mk1 (shut_bool Tryd.underlying4 _), (trodAll_cons_mk (Below.trod laidOut (by kernel_rfl) (of_decide_eq_true (by kernel_rfl)) k0 bel lt0) trodAll_mk0), rfl, bel.frame _, fun h => by cases h⟩

theorem over : Rows.fnEscapedUnitAcceptsExactlyFourHexDigitsAnyCaseAfterLowerURow.holds Tryd.pinned (OpenSpec.ofChange Rows.fnEscapedUnitAcceptsExactlyFourHexDigitsAnyCaseAfterLowerUSpec) :=
  OpenClaim.holds_of_wide 4 Tryd.f4 rfl rfl rfl rfl rfl rfl rfl ⟨rfl, rfl, rfl, rfl, rfl⟩ rfl rfl rfl rfl rfl (by kernel_rfl) Tryd.func4 (by kernel_rfl)
    (of_decide_eq_true (by kernel_rfl)) (by unfold Func.isWrapper; first | (rw [if_pos (by decide +kernel)]; kernel_rfl) | (rw [if_neg (by decide +kernel)]; exact ⟨rfl, rfl⟩))
    (fun os started H enc _ => lifted os started H enc)

/-- ████ THE TIED CARD ████ -/
theorem proved : Rows.FnEscapedUnitAcceptsExactlyFourHexDigitsAnyCaseAfterLowerUCardSaid :=
  Claim7.holds_tied_plain_at .later [] [.data, .data, .data, .sentinel, .sentinel] true (true, "a1a18b653c936b7bd156f196347cb1dcb28a5e1ebb09f7f0722b1ffd31f4de76") true
    over (fun _ h => by cases h) (by kernel_rfl) (fun _ h => by cases h) fnEscapedUnitAcceptsExactlyFourHexDigitsAnyCaseAfterLowerU_row_tie rfl ⟨rfl, rfl⟩ (by kernel_rfl) rfl
    (fun f fn hf hfn => by
      obtain rfl : f = 4 := Option.some.inj ((show Tryd.prog.funcNamed Rows.fnEscapedUnitAcceptsExactlyFourHexDigitsAnyCaseAfterLowerURow.func = some 4 by kernel_rfl).symm.trans hf) |>.symm
      obtain rfl : fn = Tryd.f4 := (Option.some.inj (Tryd.func4.symm.trans hfn)).symm
      exact ⟨by kernel_rfl, fun j t ht => by
        rw [Tryd.params4] at ht
        have h22 : t = 22 := by
          rcases j with _ | j
          · simpa using ht.symm
          · simp at ht
        subst h22
        exact (show Tryd.prog.wantsStandIn 22 = false by kernel_rfl)⟩)
    (by kernel_rfl)
end Go.Proofs.Qxb6617450aDoor.fnEscapedUnitAcceptsExactlyFourHexDigitsAnyCaseAfterLowerU
