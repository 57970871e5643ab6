/-
  THE WALK OF internal/strconv.ParseUint AT BASE 16, BIT SIZE 16, OVER A STRING OF AT MOST FOUR BYTES.
-/
import Derived.Test.Qxb6617450aDoorWalkA
import Derived.Lib.ConvBytes
import Derived.Lib.Hide
import Derived.Lib.Strings
import Derived.Lib.Walk
import Derived.Laws.Strings3
import Derived.Laws.Closers25
import Derived.Laws.Closers25b
namespace Go.Proofs.Qxb6617450aDoor
open Go.RowKit

theorem lower_any (c : Int) (w : World) :
    Calls Tryd.prog 14 #[.int .u8 c] w fun e w' => e = .returned (.int .u8 (bits .or .u8 c 32)) ∧ w' = w := by
  go_enter Tryd.func14, Tryd.ntmps14
  go_wp2
  go_ret
  exact ⟨rfl, rfl⟩

theorem or32_upper : ∀ n : Fin 256, 65 ≤ n.val → n.val ≤ 70 → bits .or .u8 (n.val : Int) 32 = (n.val : Int) + 32 := by decide +kernel
theorem or32_lower : ∀ n : Fin 256, 97 ≤ n.val → n.val ≤ 102 → bits .or .u8 (n.val : Int) 32 = (n.val : Int) := by decide +kernel
theorem or32_none : ∀ n : Fin 256, ¬ (65 ≤ n.val ∧ n.val ≤ 70) → ¬ (97 ≤ n.val ∧ n.val ≤ 102) → ¬ (97 ≤ bits .or .u8 (n.val : Int) 32 ∧ bits .or .u8 (n.val : Int) 32 ≤ 102) := by decide +kernel

theorem lower_up (c : Nat) (w : World) (h0 : 65 ≤ c) (h1 : c ≤ 70) :
    Calls Tryd.prog 14 #[.int .u8 c] w fun e w' => e = .returned (.int .u8 ((c : Int) + 32)) ∧ w' = w := by
  have h := or32_upper ⟨c, by omega⟩ h0 h1
  rw [← h]; exact lower_any _ w
theorem lower_lo (c : Nat) (w : World) (h0 : 97 ≤ c) (h1 : c ≤ 102) :
    Calls Tryd.prog 14 #[.int .u8 c] w fun e w' => e = .returned (.int .u8 (c : Int)) ∧ w' = w := by
  have h := or32_lower ⟨c, by omega⟩ h0 h1
  have := lower_any c w
  rw [show bits .or .u8 (c : Int) 32 = (c : Int) from h] at this; exact this
theorem lower_no (c : Nat) (h : c < 256) (h0 : ¬ (65 ≤ c ∧ c ≤ 70)) (h1 : ¬ (97 ≤ c ∧ c ≤ 102)) :
    ∃ v : Int, 0 ≤ v ∧ v ≤ 255 ∧ ¬ (97 ≤ v ∧ v ≤ 102) ∧ ∀ w, Calls Tryd.prog 14 #[.int .u8 c] w fun e w' => e = .returned (.int .u8 v) ∧ w' = w :=
  ⟨_, bits_lo_u8 .or c 32, bits_hi_u8 .or c 32, or32_none ⟨c, h⟩ h0 h1, fun w => lower_any c w⟩

theorem lower95 (w : World) : Calls Tryd.prog 14 #[.int .u8 95] w fun e w' => e = .returned (.int .u8 127) ∧ w' = w := lower_any 95 w

/-- (value, error) as ParseUint hands them back. -/
def outHex : Option Int → Value
  | some n => .tuple #[.int .u64 n, .nilIface]
  | none => .tuple #[.int .u64 0, .iface 34 (.int .i64 2)]

theorem pow_le (k : Nat) (a : Int) (h : k < 4) (hp : a + 1 ≤ (16 : Int) ^ k) : a ≤ 4095 := by
  rcases (show k = 0 ∨ k = 1 ∨ k = 2 ∨ k = 3 by omega) with rfl | rfl | rfl | rfl <;> simp at hp <;> omega
theorem pow_succ_le (k : Nat) (a d : Int) (hp : a + 1 ≤ (16 : Int) ^ k) (hd : d ≤ 15) : a * 16 + d + 1 ≤ (16 : Int) ^ (k + 1) := by
  rw [Int.pow_succ]; omega

set_option maxHeartbeats 4000000 in
set_option maxRecDepth 100000 in
theorem parse16_any (t : ByteArray) (hne : t.size ≠ 0) (hmax : t.size ≤ 4) (w : World) :
    Calls Tryd.prog 12 #[.string t, .int .i64 16, .int .i64 16] w fun e w' => e = .returned (outHex (Hx.hexRun 0 t.data.toList)) ∧ w' = Lib.bytesWorld w 5 t := by
  have hemp : t.toList.isEmpty = false := by
    rw [← decide_eq_emptyBytes]
    exact decide_eq_false (fun h => hne (by rw [h]; rfl))
  have hcv := Lib.run_convert_string_bytes (P := Tryd.prog) w 9 22 5 t (u := .string) Tryd.underlying9 Tryd.underlying22 Tryd.underlying5
  have hB : ∀ j, j < t.size → (Lib.bytesWorld w 5 t).cell? ⟨w.heap.size, j, none⟩ = some (.int .u8 (t.data.toList.getD j 0).toNat) := fun j hj => Lib.bytesWorld_cell w 5 t j hj
  obtain ⟨W1, hW1⟩ : ∃ W1, W1 = Lib.bytesWorld w 5 t := ⟨_, rfl⟩
  rw [← hW1] at hcv hB ⊢
  clear hW1
  obtain ⟨bs, hL⟩ : ∃ bs, bs = t.data.toList := ⟨_, rfl⟩
  have hLn : bs.length = t.size := by rw [hL, Lib.size_eq]
  rw [← hL] at hB ⊢
  clear hL
  have hmv : IntKind.u64.wrap (IntKind.u64.wrap 65536 - 1) = 65535 := by
    rw [IntKind.wrap_u64, IntKind.wrap_u64]
    decide
  go_enter Tryd.func12, Tryd.ntmps12
  go_wp2
  go_loop [12, 13, 101] (fun vu vn vi => ∃ (k : Nat) (a : Int), vu = .bool false ∧ vn = .int .u64 a ∧ vi = .int .i64 k ∧ k ≤ t.size ∧ Hid (0 ≤ a ∧ a + 1 ≤ (16 : Int) ^ k ∧ Hx.hexRun 0 bs = Hx.hexRun a (bs.drop k)))
    (fun _ _ vi => t.size - (intOf vi).toNat)
  case atStart => exact ⟨0, 0, rfl, rfl, rfl, by omega, by omega, by decide, rfl⟩
  case round =>
    obtain ⟨k, a, rfl, rfl, rfl, hk, hh⟩ := hrel
    obtain ⟨a0, hpow, hdec⟩ := hh.out
    clear hh
    by_cases hkn : k < t.size
    · have hc := hB k hkn
      have a1 : a ≤ 4095 := pow_le k a (by omega) hpow
      have hdrop : bs.drop k = bs[k]'(by omega) :: bs.drop (k + 1) := List.drop_eq_getElem_cons (by omega)
      have hget : bs.getD k 0 = bs[k]'(by omega) := by simp [List.getD, List.getElem?_eq_getElem (show k < bs.length by omega)]
      rw [hdrop] at hdec
      rw [hget] at hc
      generalize bs[k]'(by omega) = c at hc hdec
      have hc256 : c.toNat < 256 := c.toNat_lt
      clear hB hdrop hget
      have hpow2 := pow_succ_le k a (Hx.hexv c.toNat) hpow (Hx.hexv_bd c.toNat).2
      have HP : Hid (a * 16 + Hx.hexv c.toNat + 1 ≤ (16 : Int) ^ (k + 1)) := Lib.hid hpow2
      clear hpow hpow2
      by_cases hdig : 48 ≤ c.toNat ∧ c.toNat ≤ 57
      · obtain ⟨hd0, hd1⟩ := hdig
        have hv : Hx.hexv c.toNat = (c.toNat : Int) - 48 := by unfold Hx.hexv; rw [if_pos (by omega)]
        have hF : Hx.hexRun a (c :: bs.drop (k + 1)) = Hx.hexRun (a * 16 + ((c.toNat : Int) - 48)) (bs.drop (k + 1)) := by simp only [Hx.hexRun]; rw [if_neg (by omega), hv]
        have HN : Hid (0 ≤ a * 16 + ((c.toNat : Int) - 48) ∧ a * 16 + ((c.toNat : Int) - 48) + 1 ≤ (16 : Int) ^ (k + 1) ∧ Hx.hexRun 0 bs = Hx.hexRun (a * 16 + ((c.toNat : Int) - 48)) (bs.drop (k + 1))) := Lib.hid ⟨by omega, hv ▸ HP.out, hdec.trans hF⟩
        clear hF hdec hv HP
        go_wp2
        refine ⟨⟨k + 1, a * 16 + ((c.toNat : Int) - 48), rfl, (by first | rfl | (congr 1; omega)), (by first | rfl | (congr 1; omega)), by omega, HN⟩, by simp [intOf]; omega⟩
      · by_cases hup : 65 ≤ c.toNat ∧ c.toNat ≤ 70
        · obtain ⟨hd0, hd1⟩ := hup
          have hv : Hx.hexv c.toNat = (c.toNat : Int) - 55 := by unfold Hx.hexv; rw [if_neg (by omega), if_neg (by omega), if_pos (by omega)]
          have hF : Hx.hexRun a (c :: bs.drop (k + 1)) = Hx.hexRun (a * 16 + ((c.toNat : Int) - 55)) (bs.drop (k + 1)) := by simp only [Hx.hexRun]; rw [if_neg (by omega), hv]
          have HN : Hid (0 ≤ a * 16 + ((c.toNat : Int) - 55) ∧ a * 16 + ((c.toNat : Int) - 55) + 1 ≤ (16 : Int) ^ (k + 1) ∧ Hx.hexRun 0 bs = Hx.hexRun (a * 16 + ((c.toNat : Int) - 55)) (bs.drop (k + 1))) := Lib.hid ⟨by omega, hv ▸ HP.out, hdec.trans hF⟩
          clear hF hdec hv HP hdig
          go_wp2_with (go_at_call 14; refine (lower_up c.toNat _ hd0 hd1).mono ?_; rintro e w' ⟨rfl, rfl⟩)
          refine ⟨⟨k + 1, a * 16 + ((c.toNat : Int) - 55), rfl, (by first | rfl | (congr 1; omega)), (by first | rfl | (congr 1; omega)), by omega, HN⟩, by simp [intOf]; omega⟩
        · by_cases hlo : 97 ≤ c.toNat ∧ c.toNat ≤ 102
          · obtain ⟨hd0, hd1⟩ := hlo
            have hv : Hx.hexv c.toNat = (c.toNat : Int) - 87 := by unfold Hx.hexv; rw [if_neg (by omega), if_pos (by omega)]
            have hF : Hx.hexRun a (c :: bs.drop (k + 1)) = Hx.hexRun (a * 16 + ((c.toNat : Int) - 87)) (bs.drop (k + 1)) := by simp only [Hx.hexRun]; rw [if_neg (by omega), hv]
            have HN : Hid (0 ≤ a * 16 + ((c.toNat : Int) - 87) ∧ a * 16 + ((c.toNat : Int) - 87) + 1 ≤ (16 : Int) ^ (k + 1) ∧ Hx.hexRun 0 bs = Hx.hexRun (a * 16 + ((c.toNat : Int) - 87)) (bs.drop (k + 1))) := Lib.hid ⟨by omega, hv ▸ HP.out, hdec.trans hF⟩
            clear hF hdec hv HP hdig hup
            go_wp2_with (go_at_call 14; refine (lower_lo c.toNat _ hd0 hd1).mono ?_; rintro e w' ⟨rfl, rfl⟩)
            refine ⟨⟨k + 1, a * 16 + ((c.toNat : Int) - 87), rfl, (by first | rfl | (congr 1; omega)), (by first | rfl | (congr 1; omega)), by omega, HN⟩, by simp [intOf]; omega⟩
          · have hv : Hx.hexv c.toNat = -1 := by unfold Hx.hexv; rw [if_neg (by omega), if_neg (by omega), if_neg (by omega)]
            have hF : Hx.hexRun a (c :: bs.drop (k + 1)) = none := by simp only [Hx.hexRun]; rw [if_pos (by omega)]
            have HN : Hid (Hx.hexRun 0 bs = none) := Lib.hid (hdec.trans hF)
            by_cases h95 : c.toNat = 95
            · rw [h95] at hc
              clear hF hdec hv HP hdig hup hlo h95
              go_wp2_with (go_at_call 14; refine (lower95 _).mono ?_; rintro e w' ⟨rfl, rfl⟩)
              go_ret2
              exact ⟨by rw [HN.out]; rfl, rfl⟩
            · have hne95 : ((c.toNat : Int) == 95) = false := beq_eq_false_iff_ne.2 (by omega)
              obtain ⟨v, hv0, hv1, hvn, hcall⟩ := lower_no c.toNat hc256 hup hlo
              have HC := Lib.hid hcall
              clear hF hdec hv HP hcall h95
              go_wp2_with (go_at_call 14; refine (HC.out _).mono ?_; rintro e w' ⟨rfl, rfl⟩)
              all_goals go_ret2
              all_goals exact ⟨by rw [HN.out]; rfl, rfl⟩
    · have hkk : k = t.size := by omega
      subst hkk
      have hF : Hx.hexRun a (bs.drop t.size) = some a := by rw [List.drop_eq_nil_of_le (by omega)]; rfl
      have HN : Hid (Hx.hexRun 0 bs = some a) := Lib.hid (hdec.trans hF)
      clear hF hdec hpow hB
      go_wp2
      go_ret2
      exact ⟨by rw [HN.out]; rfl, rfl⟩

end Go.Proofs.Qxb6617450aDoor
