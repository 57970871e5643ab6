/-
  THE WALKS OF escapedUnit AND ZZescapedUnit.
-/
import Derived.Test.Qxb6617450aDoorWalkC
namespace Go.Proofs.Qxb6617450aDoor
open Go.RowKit

set_option maxHeartbeats 400000 in
theorem esc_short (p : Option Addr) (len cap : Nat) (w : World) (h : len < 6) :
    Calls Tryd.prog 10 #[.slice p len cap] w fun e w' => e = .returned (.int .i32 (-1)) ∧ w' = w := by
  go_enter Tryd.func10, Tryd.ntmps10
  go_wp2
  go_ret
  exact ⟨rfl, rfl⟩

theorem size4 (a b c d : UInt8) : (⟨#[a, b, c, d]⟩ : ByteArray).size = 4 := rfl

/-- The six cells of an escape. -/
structure Six (w : World) (b off : Nat) (u0 u1 u2 u3 u4 u5 : UInt8) : Prop where
  c0 : w.cell? ⟨b, off, none⟩ = some (.int .u8 u0.toNat)
  c1 : w.cell? ⟨b, off + 1, none⟩ = some (.int .u8 u1.toNat)
  c2 : w.cell? ⟨b, off + 2, none⟩ = some (.int .u8 u2.toNat)
  c3 : w.cell? ⟨b, off + 3, none⟩ = some (.int .u8 u3.toNat)
  c4 : w.cell? ⟨b, off + 4, none⟩ = some (.int .u8 u4.toNat)
  c5 : w.cell? ⟨b, off + 5, none⟩ = some (.int .u8 u5.toNat)

set_option maxHeartbeats 400000 in
theorem esc_head (b off len cap : Nat) (u0 u1 : UInt8) (w : World) (h : 6 ≤ len) (hm : len ≤ 9223372036854775807)
    (c0 : w.cell? ⟨b, off, none⟩ = some (.int .u8 u0.toNat)) (c1 : w.cell? ⟨b, off + 1, none⟩ = some (.int .u8 u1.toNat))
    (hne : ¬ (u0.toNat = 92 ∧ u1.toNat = 117)) :
    Calls Tryd.prog 10 #[.slice (some ⟨b, off, none⟩) len cap] w fun e w' => e = .returned (.int .i32 (-1)) ∧ w' = w := by
  have b0 := u0.toNat_lt
  have b1 := u1.toNat_lt
  by_cases h0 : u0.toNat = 92
  · have h1 : ((u1.toNat : Int) != 117) = true := by rw [bne_iff_ne]; omega
    have h0' : ((u0.toNat : Int) != 92) = false := by simp [h0]
    clear h0 hne
    go_enter Tryd.func10, Tryd.ntmps10
    go_wp2
    go_ret
    exact ⟨rfl, rfl⟩
  · have h0' : ((u0.toNat : Int) != 92) = true := by rw [bne_iff_ne]; omega
    clear h0 hne
    go_enter Tryd.func10, Tryd.ntmps10
    go_wp2
    go_ret
    exact ⟨rfl, rfl⟩

set_option maxHeartbeats 400000 in
theorem esc_tail (b off len cap : Nat) (u2 u3 u4 u5 : UInt8) (te : TypeId) (pe : Value) (w : World) (h : 6 ≤ len) (hm : len ≤ 9223372036854775807) (hcap : len ≤ cap)
    (hS : Six w b off 92 117 u2 u3 u4 u5) (hv : w.cell? ⟨0, 0, none⟩ = some (.iface te pe)) :
    Calls Tryd.prog 10 #[.slice (some ⟨b, off, none⟩) len cap] w fun e w' => e = .returned (.int .i32 (Hx.esc4 u2.toNat u3.toNat u4.toNat u5.toNat)) ∧ Below w.heap.size w w' := by
  have c0 := hS.c0
  have c1 := hS.c1
  have hcv : ∀ c, (convert 22 9 (.slice (some ⟨b, off + 2, none⟩) 4 c)).run Tryd.prog w = .ok (.string ⟨#[u2, u3, u4, u5]⟩) w := fun c =>
    run_convert_bytes_back (P := Tryd.prog) w 22 9 5 ⟨b, off + 2, none⟩ c [u2, u3, u4, u5] Tryd.underlying22 Tryd.underlying5 Tryd.underlying9 (fun j hj => by
      match j, hj with
      | 0, _ => exact hS.c2
      | 1, _ => exact hS.c3
      | 2, _ => exact hS.c4
      | 3, _ => exact hS.c5)
  have h4 := Hx.hexRun4 u2 u3 u4 u5
  cases hr : Hx.hexRun 0 [u2, u3, u4, u5] with
  | none =>
    rw [hr] at h4
    have H4 : Hid (Hx.esc4 u2.toNat u3.toNat u4.toNat u5.toNat = -1) := Lib.hid h4.symm
    have HR := Lib.hid hr
    have HV := Lib.hid hv
    clear h4 hr hv hS
    go_enter Tryd.func10, Tryd.ntmps10
    go_wp2_with fail
    refine (parse_no ⟨#[u2, u3, u4, u5]⟩ te pe (by rw [size4]; decide) (by rw [size4]; decide) _ HV.out HR.out).mono ?_
    rintro e w2 ⟨N, rfl, h3⟩
    go_wp2
    go_ret
    exact ⟨ret_int H4.out.symm, h3⟩
  | some n =>
    rw [hr] at h4
    have hb4 := Hx.esc4_bd u2.toNat u3.toNat u4.toNat u5.toNat
    have hn : n = Hx.esc4 u2.toNat u3.toNat u4.toNat u5.toNat := h4
    have hn0 : 0 ≤ n := Hx.hexRun_pos _ _ _ (by omega) hr
    have hn1 : n ≤ 65535 := by omega
    have H4 := Lib.hid hn
    have HR := Lib.hid hr
    clear h4 hr hv hS hn hb4
    go_enter Tryd.func10, Tryd.ntmps10
    go_wp2_with fail
    refine (parse_yes ⟨#[u2, u3, u4, u5]⟩ n (by rw [size4]; decide) (by rw [size4]; decide) _ HR.out).mono ?_
    rintro e w2 ⟨rfl, h3⟩
    go_wp2
    go_ret
    exact ⟨ret_int H4.out, h3⟩

/-- escapedUnit, six bytes or more. -/
theorem esc_long (b off len cap : Nat) (u0 u1 u2 u3 u4 u5 : UInt8) (te : TypeId) (pe : Value) (w : World) (h : 6 ≤ len) (hm : len ≤ 9223372036854775807) (hcap : len ≤ cap)
    (hS : Six w b off u0 u1 u2 u3 u4 u5) (hv : w.cell? ⟨0, 0, none⟩ = some (.iface te pe)) :
    Calls Tryd.prog 10 #[.slice (some ⟨b, off, none⟩) len cap] w fun e w' => e = .returned (.int .i32 (Hx.esc6 u0.toNat u1.toNat u2.toNat u3.toNat u4.toNat u5.toNat)) ∧ Below w.heap.size w w' := by
  unfold Hx.esc6
  by_cases hne : u0.toNat = 92 ∧ u1.toNat = 117
  · rw [if_pos (by omega)]
    obtain ⟨h0, h1⟩ := hne
    have e0 : u0 = 92 := UInt8.toNat_inj.1 h0
    have e1 : u1 = 117 := UInt8.toNat_inj.1 h1
    subst e0; subst e1
    exact esc_tail b off len cap u2 u3 u4 u5 te pe w h hm hcap hS hv
  · rw [if_neg (by omega)]
    exact (esc_head b off len cap u0 u1 w h hm hS.c0 hS.c1 hne).mono fun e w' ⟨he, hw⟩ => ⟨he, hw ▸ Below.refl _ _⟩

set_option maxHeartbeats 400000 in
theorem zz_short (p : Option Addr) (len cap : Nat) (w : World) (h : len < 6) :
    Calls Tryd.prog 6 #[.slice p len cap] w fun e w' => e = .returned (.int .i32 (-1)) ∧ w' = w := by
  go_enter Tryd.func6, Tryd.ntmps6
  go_wp2_with fail
  refine (esc_short p len cap w h).mono ?_
  rintro e w' ⟨rfl, rfl⟩
  go_wp2
  go_ret
  exact ⟨rfl, rfl⟩

set_option maxHeartbeats 400000 in
theorem zz_long (b off len cap : Nat) (u0 u1 u2 u3 u4 u5 : UInt8) (te : TypeId) (pe : Value) (w : World) (h : 6 ≤ len) (hm : len ≤ 9223372036854775807) (hcap : len ≤ cap)
    (hS : Six w b off u0 u1 u2 u3 u4 u5) (hv : w.cell? ⟨0, 0, none⟩ = some (.iface te pe)) :
    Calls Tryd.prog 6 #[.slice (some ⟨b, off, none⟩) len cap] w fun e w' => e = .returned (.int .i32 (Hx.esc6 u0.toNat u1.toNat u2.toNat u3.toNat u4.toNat u5.toNat)) ∧ Below w.heap.size w w' := by
  have HV := Lib.hid hv
  have HS := Lib.hid hS
  clear hv hS
  go_enter Tryd.func6, Tryd.ntmps6
  go_wp2_with fail
  refine (esc_long b off len cap u0 u1 u2 u3 u4 u5 te pe w h hm hcap HS.out HV.out).mono ?_
  rintro e w' ⟨rfl, hb⟩
  go_wp2
  go_ret
  exact ⟨rfl, hb⟩

end Go.Proofs.Qxb6617450aDoor
