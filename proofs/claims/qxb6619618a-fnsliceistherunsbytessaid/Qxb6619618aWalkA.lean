/-
  Pieces and ends in memory; cmp.Less, slices.BinarySearch; zzRunLen.
-/
import Derived.Test.Qxb6619618aRows
import Derived.WalkKit
import Derived.WalkSpells
import Derived.WalkLawsBesides
import Derived.Lib.Hide
import Derived.Lib.Walk
import Derived.Lib.AtoiErrMem
import Derived.Lib.SliceRun
import Derived.Deep.QuietTactic
import Derived.BigQuiet
namespace Go.Proofs.Qxb6619618a
open Go.RowKit

/-- A slice of ints: empty, or its cells hold the numbers. -/
def EV (w : World) (p : Option Addr) (n : Nat) (es : List Int) : Prop :=
  es.length = n ∧ (n = 0 ∨ ∃ b off, p = some ⟨b, off, none⟩ ∧ ∀ j, j < n → w.cell? ⟨b, off + j, none⟩ = some (.int .i64 (es.getD j 0)))

theorem EV.at_ {w : World} {p : Option Addr} {n k : Nat} {es : List Int} (h : EV w p n es) (hk : k < n) :
    ∃ b off, p = some ⟨b, off, none⟩ ∧ ∀ j, j < n → w.cell? ⟨b, off + j, none⟩ = some (.int .i64 (es.getD j 0)) := by
  rcases h.2 with h0 | h1
  · omega
  · exact h1
theorem EV.below {w w' : World} {p : Option Addr} {n : Nat} {es : List Int} (h : EV w p n es) (hb : Below w.heap.size w w') : EV w' p n es := by
  obtain ⟨hl, h0 | ⟨b, off, hp, hc⟩⟩ := h
  · exact ⟨hl, .inl h0⟩
  · exact ⟨hl, .inr ⟨b, off, hp, fun j hj => (hb.cell (p := ⟨b, off + j, none⟩) (Lib.lt_of_cell (hc j hj))).trans (hc j hj)⟩⟩

set_option maxHeartbeats 400000 in
theorem isNaN_any (x : Int) (w : World) : Calls Try.prog 22 #[.int .i64 x] w fun e w' => e = .returned (.bool false) ∧ w' = w := by
  have h : (x != x) = false := by simp
  go_enter Try.func22, Try.ntmps22
  go_wp2
  go_ret
  exact ⟨rfl, rfl⟩
set_option maxHeartbeats 400000 in
theorem isNaN2_any (x : Int) (w : World) : Calls Try.prog 23 #[.int .i64 x] w fun e w' => e = .returned (.bool false) ∧ w' = w := by
  have h : (x != x) = false := by simp
  go_enter Try.func23, Try.ntmps23
  go_wp2
  go_ret
  exact ⟨rfl, rfl⟩
set_option maxHeartbeats 400000 in
theorem less_any (x y : Int) (w : World) : Calls Try.prog 21 #[.int .i64 x, .int .i64 y] w fun e w' => e = .returned (.bool (decide (x < y))) ∧ w' = w := by
  go_enter Try.func21, Try.ntmps21
  go_wp2_with (go_at_call 23; refine (isNaN2_any _ _).mono ?_; rintro e w' ⟨rfl, rfl⟩)
  go_ret
  exact ⟨rfl, rfl⟩

/-- i is the place of t among the numbers es, which rise: all ahead of it are less, none behind it. -/
def IsCut (es : List Int) (t : Int) (i : Nat) : Prop := i ≤ es.length ∧ (∀ a, a < i → es.getD a 0 < t) ∧ ∀ a, i ≤ a → a < es.length → t ≤ es.getD a 0

def SearchPost (es : List Int) (t : Int) (w : World) (e : Ending) (w' : World) : Prop := ∃ (i : Nat) (b : Bool), e = .returned (.tuple #[.int .i64 i, .bool b]) ∧ IsCut es t i ∧ w' = w
theorem SearchPost.mk {es : List Int} {t : Int} {w : World} (i : Nat) (b : Bool) (h : IsCut es t i) : SearchPost es t w (.returned (.tuple #[.int .i64 i, .bool b])) w := ⟨i, b, rfl, h, rfl⟩

set_option maxHeartbeats 1000000 in
theorem search_any (p : Option Addr) (n cap : Nat) (es : List Int) (t : Int) (w : World) (h : EV w p n es) (hn : n ≤ 1048576) (hs : ∀ a b, a ≤ b → b < n → es.getD a 0 ≤ es.getD b 0) :
    Calls Try.prog 19 #[.slice p n cap, .int .i64 t] w fun e w' => SearchPost es t w e w' := by
  have H := Lib.hid h
  have HS := Lib.hid hs
  clear h hs
  go_enter Try.func19, Try.ntmps19
  go_wp2
  go_loop [7, 8] (fun vi vj => ∃ (i j : Nat), vi = .int .i64 i ∧ vj = .int .i64 j ∧ i ≤ j ∧ j ≤ n ∧ Hid (∀ a, a < i → es.getD a 0 < t) ∧ Hid (∀ a, j ≤ a → a < n → t ≤ es.getD a 0)) (fun vi vj => (intOf vj).toNat - (intOf vi).toNat)
  case atStart => exact ⟨0, n, rfl, rfl, Nat.zero_le _, Nat.le_refl _, (fun a ha => by omega), (fun a ha hb => by omega)⟩
  case round =>
    obtain ⟨i, j, rfl, rfl, hij, hjn, HI, HJ⟩ := hrel
    by_cases hlt : i < j
    · obtain ⟨b, off, rfl, hc⟩ := H.out.at_ (show (i + j) / 2 < n by omega)
      have hck := hc ((i + j) / 2) (by omega)
      obtain ⟨x, hx⟩ : ∃ x, es.getD ((i + j) / 2) 0 = x := ⟨_, rfl⟩
      rw [hx] at hck
      have HX := Lib.hid hx
      clear hc hx
      by_cases hxt : x < t
      · go_wp2_with (go_at_call 21; refine (less_any x t _).mono ?_; rintro e w1 ⟨rfl, rfl⟩)
        go_round
        case rel => exact ⟨(i + j) / 2 + 1, j, by go_num, rfl, by omega, hjn, (fun a ha => by
          have h1 := HS.out a ((i + j) / 2) (by omega) (by omega)
          rw [HX.out] at h1; omega), HJ⟩
        case measure => simp [intOf]; omega
      · go_wp2_with (go_at_call 21; refine (less_any x t _).mono ?_; rintro e w1 ⟨rfl, rfl⟩)
        go_round
        case rel => exact ⟨i, (i + j) / 2, rfl, by go_num, by omega, by omega, HI, (fun a ha hb => by
          have h1 := HS.out ((i + j) / 2) a ha hb
          rw [HX.out] at h1; omega)⟩
        case measure => simp [intOf]; omega
    · have hcut : IsCut es t i := ⟨by rw [H.out.1]; omega, HI.out, fun a ha hb => HJ.out a (by omega) (by rw [← H.out.1]; exact hb)⟩
      have HC := Lib.hid hcut
      clear hcut HI HJ
      by_cases hin : i < n
      · obtain ⟨b, off, rfl, hc⟩ := H.out.at_ hin
        have hck := hc i hin
        generalize es.getD i 0 = x at hck
        clear hc
        by_cases hx : x = t
        · have hxb : (x == t) = true := by simp [hx]
          clear hx
          go_wp2_with (go_at_call 22; refine (isNaN_any x _).mono ?_; rintro e w1 ⟨rfl, rfl⟩)
          go_ret2
          exact SearchPost.mk i _ HC.out
        · have hxb : (x == t) = false := by simp [hx]
          clear hx
          go_wp2_with (go_at_call 22; refine (isNaN_any x _).mono ?_; rintro e w1 ⟨rfl, rfl⟩)
          go_ret2
          exact SearchPost.mk i _ HC.out
      · go_wp2
        go_ret2
        exact SearchPost.mk i _ HC.out

set_option maxHeartbeats 400000 in
theorem runLen_zero (p : Option Addr) (cap : Nat) (w : World) :
    Calls Try.prog 9 #[.slice p 0 cap] w fun e w' => e = .returned (.int .i64 0) ∧ w' = w := by
  go_enter Try.func9, Try.ntmps9
  go_wp2
  go_ret
  exact ⟨rfl, rfl⟩
set_option maxHeartbeats 400000 in
theorem runLen_any (p : Option Addr) (n cap : Nat) (es : List Int) (w : World) (h : EV w p n es) (hn : n ≤ 1048576) (h0 : 0 < n) :
    Calls Try.prog 9 #[.slice p n cap] w fun e w' => e = .returned (.int .i64 (es.getD (n - 1) 0)) ∧ w' = w := by
  obtain ⟨b, off, rfl, hc⟩ := h.at_ (show n - 1 < n by omega)
  have hck := hc (n - 1) (by omega)
  have hne : ((n : Int) == 0) = false := beq_eq_false_iff_ne.2 (by omega)
  clear hc h
  generalize es.getD (n - 1) 0 = x at hck ⊢
  go_enter Try.func9, Try.ntmps9
  go_wp2
  go_ret
  exact ⟨rfl, rfl⟩

end Go.Proofs.Qxb6619618a
