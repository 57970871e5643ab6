/-
  STRINGS IN A SLICE; zzIndexOf, slices.Index, slices.Contains.
-/
import Derived.Test.Qxb6618756aRows
import Derived.WalkKit
import Derived.WalkSpells
import Derived.WalkLawsBesides
import Derived.Lib.Hide
import Derived.Lib.Walk
import Derived.Lib.Strings
namespace Go.Proofs.Qxb6618756a
open Go.RowKit

/-- A slice of strings: empty, or its cells hold the strings. -/
def SRow (w : World) (p : Option Addr) (n : Nat) (ss : List ByteArray) : Prop :=
  ss.length = n ∧ (n = 0 ∨ ∃ b off, p = some ⟨b, off, none⟩ ∧ ∀ j, j < n → w.cell? ⟨b, off + j, none⟩ = some (.string (ss.getD j ByteArray.empty)))

/-- i is the index of the first x among ss, or -1 where there is none. -/
def IsIdx (ss : List ByteArray) (x : ByteArray) (i : Int) : Prop :=
  (i = -1 ∧ ∀ j, j < ss.length → ss.getD j ByteArray.empty ≠ x) ∨ ∃ k : Nat, i = k ∧ k < ss.length ∧ ss.getD k ByteArray.empty = x ∧ ∀ j, j < k → ss.getD j ByteArray.empty ≠ x

theorem beqs (y x : ByteArray) : (y.toList == x.toList) = true ↔ y = x := by
  rw [Lib.toList_data, Lib.toList_data, beq_iff_eq]
  constructor
  · intro h; rw [← Lib.mk_data y, ← Lib.mk_data x, h]
  · intro h; rw [h]
theorem beqs_ne {y x : ByteArray} (h : y ≠ x) : (y.toList == x.toList) = false := by
  cases e : y.toList == x.toList with
  | false => rfl
  | true => exact absurd ((beqs y x).1 e) h

set_option maxHeartbeats 400000 in
theorem indexOf_any (p : Option Addr) (n cap : Nat) (ss : List ByteArray) (x : ByteArray) (w : World) (h : SRow w p n ss) (hn : n ≤ 9223372036854775806) :
    Calls Try.prog 10 #[.slice p n cap, .string x] w fun e w' => ∃ i : Int, e = .returned (.int .i64 i) ∧ IsIdx ss x i ∧ w' = w := by
  obtain ⟨hl, rfl | ⟨b, off, rfl, hc⟩⟩ := h
  · go_enter Try.func10, Try.ntmps10
    go_wp2
    refine wp_loop_rounds 1 ?_
    rw [rounds_succ]
    go_wp2
    go_ret
    exact ⟨-1, rfl, .inl ⟨rfl, fun j hj => by omega⟩, rfl⟩
  · have HL := Lib.hid hl
    clear hl
    go_enter Try.func10, Try.ntmps10
    go_wp2
    go_loop [5] (fun vi => ∃ k : Nat, vi = .int .i64 k ∧ k ≤ n ∧ Hid (∀ j, j < k → ss.getD j ByteArray.empty ≠ x)) (fun vi => n - (intOf vi).toNat)
    case atStart => exact ⟨0, rfl, Nat.zero_le _, fun j hj => by omega⟩
    case round =>
      obtain ⟨k, rfl, hk, H⟩ := hrel
      by_cases hkn : k < n
      · have hck := hc k hkn
        clear hc
        obtain ⟨y, hy⟩ : ∃ y, ss.getD k ByteArray.empty = y := ⟨_, rfl⟩
        rw [hy] at hck
        have HY := Lib.hid hy
        clear hy
        by_cases hxy : y = x
        · have ht : (y.toList == x.toList) = true := (beqs y x).2 hxy
          have HX := Lib.hid hxy
          clear hxy
          go_wp2
          go_ret
          exact ⟨k, rfl, .inr ⟨k, rfl, by rw [HL.out]; exact hkn, by rw [HY.out]; exact HX.out, H.out⟩, rfl⟩
        · have ht : (y.toList == x.toList) = false := beqs_ne hxy
          have HX := Lib.hid hxy
          clear hxy
          go_wp2
          go_round
          case rel => exact ⟨k + 1, by go_num, by omega, fun j hj => by
            by_cases e : j = k
            · subst e; rw [HY.out]; exact HX.out
            · exact H.out j (by omega)⟩
          case measure => simp [intOf]; omega
      · go_wp2
        go_ret
        exact ⟨-1, rfl, .inl ⟨rfl, fun j hj => H.out j (by rw [HL.out] at hj; omega)⟩, rfl⟩

set_option maxHeartbeats 400000 in
theorem index_any (p : Option Addr) (n cap : Nat) (ss : List ByteArray) (x : ByteArray) (w : World) (h : SRow w p n ss) (hn : n ≤ 9223372036854775806) :
    Calls Try.prog 15 #[.slice p n cap, .string x] w fun e w' => ∃ i : Int, e = .returned (.int .i64 i) ∧ IsIdx ss x i ∧ w' = w := by
  obtain ⟨hl, rfl | ⟨b, off, rfl, hc⟩⟩ := h
  · go_enter Try.func15, Try.ntmps15
    go_wp2
    refine wp_loop_rounds 1 ?_
    rw [rounds_succ]
    go_wp2
    go_ret
    exact ⟨-1, rfl, .inl ⟨rfl, fun j hj => by omega⟩, rfl⟩
  · have HL := Lib.hid hl
    clear hl
    go_enter Try.func15, Try.ntmps15
    go_wp2
    go_loop [8] (fun vi => ∃ k : Nat, vi = .int .i64 k ∧ k ≤ n ∧ Hid (∀ j, j < k → ss.getD j ByteArray.empty ≠ x)) (fun vi => n - (intOf vi).toNat)
    case atStart => exact ⟨0, rfl, Nat.zero_le _, fun j hj => by omega⟩
    case round =>
      obtain ⟨k, rfl, hk, H⟩ := hrel
      by_cases hkn : k < n
      · have hck := hc k hkn
        clear hc
        obtain ⟨y, hy⟩ : ∃ y, ss.getD k ByteArray.empty = y := ⟨_, rfl⟩
        rw [hy] at hck
        have HY := Lib.hid hy
        clear hy
        by_cases hxy : y = x
        · have ht : (x.toList == y.toList) = true := (beqs x y).2 hxy.symm
          have HX := Lib.hid hxy
          clear hxy
          go_wp2
          go_ret
          exact ⟨k, rfl, .inr ⟨k, rfl, by rw [HL.out]; exact hkn, by rw [HY.out]; exact HX.out, H.out⟩, rfl⟩
        · have ht : (x.toList == y.toList) = false := beqs_ne (fun e => hxy e.symm)
          have HX := Lib.hid hxy
          clear hxy
          go_wp2
          go_round
          case rel => exact ⟨k + 1, by go_num, by omega, fun j hj => by
            by_cases e : j = k
            · subst e; rw [HY.out]; exact HX.out
            · exact H.out j (by omega)⟩
          case measure => simp [intOf]; omega
      · go_wp2
        go_ret
        exact ⟨-1, rfl, .inl ⟨rfl, fun j hj => H.out j (by rw [HL.out] at hj; omega)⟩, rfl⟩

theorem isIdx_mem {ss : List ByteArray} {x : ByteArray} {i : Int} (h : IsIdx ss x i) : (0 ≤ i ↔ x ∈ ss) := by
  constructor
  · intro hi
    rcases h with ⟨rfl, _⟩ | ⟨k, rfl, hk, hx, _⟩
    · omega
    · rw [← hx]
      simp only [List.getD, List.getElem?_eq_getElem hk, Option.getD_some]
      exact List.getElem_mem hk
  · intro hm
    rcases h with ⟨rfl, hno⟩ | ⟨k, rfl, hk, hx, _⟩
    · obtain ⟨j, hj, e⟩ := List.getElem_of_mem hm
      exact absurd (by simp only [List.getD, List.getElem?_eq_getElem hj, Option.getD_some]; exact e) (hno j hj)
    · omega

theorem isIdx_lo {ss : List ByteArray} {x : ByteArray} {i : Int} (h : IsIdx ss x i) : -1 ≤ i ∧ i ≤ ss.length := by
  rcases h with ⟨rfl, _⟩ | ⟨k, rfl, hk, _⟩ <;> omega

set_option maxHeartbeats 400000 in
theorem contains_yes (p : Option Addr) (n cap : Nat) (ss : List ByteArray) (x : ByteArray) (w : World) (h : SRow w p n ss) (hn : n ≤ 9223372036854775806) (hm : x ∈ ss) :
    Calls Try.prog 14 #[.slice p n cap, .string x] w fun e w' => e = .returned (.bool true) ∧ w' = w := by
  have H := Lib.hid h
  have HM := Lib.hid hm
  clear h hm
  go_enter Try.func14, Try.ntmps14
  go_wp2_with fail
  refine (index_any p n cap ss x _ H.out hn).mono ?_
  rintro e w1 ⟨i, rfl, hi, rfl⟩
  have hpos := (isIdx_mem hi).2 HM.out
  have hb := isIdx_lo hi
  clear hi
  go_wp2
  go_ret
  exact ⟨rfl, rfl⟩

set_option maxHeartbeats 400000 in
theorem contains_no (p : Option Addr) (n cap : Nat) (ss : List ByteArray) (x : ByteArray) (w : World) (h : SRow w p n ss) (hn : n ≤ 9223372036854775806) (hm : x ∉ ss) :
    Calls Try.prog 14 #[.slice p n cap, .string x] w fun e w' => e = .returned (.bool false) ∧ w' = w := by
  have H := Lib.hid h
  have HM := Lib.hid hm
  clear h hm
  go_enter Try.func14, Try.ntmps14
  go_wp2_with fail
  refine (index_any p n cap ss x _ H.out hn).mono ?_
  rintro e w1 ⟨i, rfl, hi, rfl⟩
  have hneg : i < 0 := Int.not_le.1 (fun h => HM.out ((isIdx_mem hi).1 h))
  have hd : decide (0 ≤ i) = false := by simp; omega
  clear hi
  go_wp2
  go_ret
  exact ⟨rfl, rfl⟩

end Go.Proofs.Qxb6618756a
