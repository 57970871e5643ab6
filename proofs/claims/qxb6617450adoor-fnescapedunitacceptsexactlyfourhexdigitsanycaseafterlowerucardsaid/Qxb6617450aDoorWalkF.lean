/-
  THE WALK OF FnEscapedUnitIsPlaceValueOfItsDigits.
-/
import Derived.Test.Qxb6617450aDoorWalkE
namespace Go.Proofs.Qxb6617450aDoor
open Go.RowKit

set_option maxHeartbeats 400000 in
/-- Too long: true at once. -/
theorem place_big (p q : Option Addr) (n c m d : Nat) (w : World) (hn : n ≤ 9223372036854775807) (hm : m ≤ 9223372036854775807) (h : 1048576 < n + m ∨ 524288 < n ∨ 524288 < m) :
    Calls Tryd.prog 3 #[.slice p n c, .slice q m d] w fun e w' => e = .returned (.bool true) ∧ Below w.heap.size w w' := by
  by_cases h1 : 1048576 < n + m
  · go_enter Tryd.func3, Tryd.ntmps3
    go_wp2_with (go_at_call 5; refine (bytes2_no p q n c m d _ hn hm h1).mono ?_; rintro e w' ⟨rfl, rfl⟩)
    go_ret
    exact ⟨rfl, Below.refl _ _⟩
  · rcases (show 524288 < n ∨ (n ≤ 524288 ∧ 524288 < m) by omega) with h2 | h2
    all_goals
      go_enter Tryd.func3, Tryd.ntmps3
      go_wp2_with (go_at_call 5; refine (bytes2_yes p q n c m d _ (by omega)).mono ?_; rintro e w' ⟨rfl, rfl⟩)
      go_ret
      exact ⟨rfl, Below.refl _ _⟩

set_option maxHeartbeats 1000000 in
set_option maxRecDepth 100000 in
/-- Not nil, fewer than six bytes. -/
theorem place_short (ad : Addr) (q : Option Addr) (n c m d : Nat) (bs cs : List UInt8) (w : World) (hR : Row w (some ad) n c bs) (hT : Row w q m d cs) (hn : n < 6) (hm : m ≤ 524288) :
    Calls Tryd.prog 3 #[.slice (some ad) n c, .slice q m d] w fun e w' => e = .returned (.bool true) ∧ Below w.heap.size w w' := by
  obtain ⟨M, W1, hmk, hcp, hb1, hs1, hH⟩ := copied w ad n c bs hR (by omega)
  have HR := Lib.hid hR
  have HT := Lib.hid hT
  have HB := Lib.hid hb1
  have HS := Lib.hid hs1
  have HH := Lib.hid hH
  clear hR hT hb1 hs1 hH
  go_enter Tryd.func3, Tryd.ntmps3
  go_wp2_with fail
  refine (bytes2_yes (some ad) q n c m d _ (by omega)).mono ?_
  rintro e w ⟨rfl, rfl⟩
  go_wp2_with fail
  refine (zz_short _ n n _ hn).mono ?_
  rintro e W1 ⟨rfl, rfl⟩
  clear hmk hcp
  obtain ⟨i0, hi, hz0, hz1, hz2⟩ := info_parts Tryd.info5
  go_wp2_with (at_make; refine wpList_make_own _ rfl _ _ 22 rfl W1.heap.size 5 i0 (.int .u8 0) 1 Tryd.underlying22 hi hz0 hz1 _ _ _ (n + m) rfl rfl (by omega) ?b2 ?b3 (Nat.le_refl _) ?_)
  case b2 => rw [hz2]; omega
  case b3 => unfold maxLen; omega
  intro w3 hown0 hgrow0
  have hb3 : Below W1.heap.size W1 w3 := (Below.refl _ _).grown hgrow0 (Nat.le_refl _) (fun k h => by cases h)
  have R1 : Row w3 (some ⟨w.heap.size, 0, none⟩) n n bs := (HH.out.row HR.out.len).below hb3
  have R2 : Row W1 q m d cs := HT.out.below HB.out
  go_wp2_with (first
    | (at_builtin; refine wpList_append_fits_any _ rfl (.tmp 41) (.tmp 42) 22 rfl W1.heap.size 5 i0 1 Tryd.underlying22 hi hz1 W1.heap.size 0 (n + m) [] rfl hown0 (some ⟨w.heap.size, 0, none⟩) n n (Lib.byteCells bs) rfl (by rw [Lib.byteCells_length, R1.len, Nat.mul_one]) (fun e => R1.nil e) (fun ad e => R1.at_ ad e) (Lib.byteCells_one _) (by omega) ?_; intro w4 hown4 hgrow4; simp only [Nat.zero_add, List.nil_append] at hown4; have hb4 : Below W1.heap.size W1 w4 := hb3.grown hgrow4 hb3.size (fun k hk => by cases hk; exact Nat.le_refl _); have R3 : Row w4 q m d cs := R2.below hb4)
    | (at_builtin; refine wpList_append_fits_any _ rfl (.tmp 44) (.tmp 45) 22 rfl W1.heap.size 5 i0 1 Tryd.underlying22 hi hz1 W1.heap.size n (n + m) _ rfl hown4 q m d (Lib.byteCells cs) rfl (by rw [Lib.byteCells_length, R3.len, Nat.mul_one]) (fun e => R3.nil e) (fun ad e => R3.at_ ad e) (Lib.byteCells_one _) (by omega) ?_; intro w5 hown5 hgrow5; have hb5 : Below W1.heap.size W1 w5 := hb4.grown hgrow5 hb4.size (fun k hk => by cases hk; exact Nat.le_refl _)))
  go_ret
  exact ⟨rfl, HB.out.trans (hb5.mono HB.out.size)⟩

set_option maxHeartbeats 1000000 in
set_option maxRecDepth 100000 in
/-- nil. -/
theorem place_nil (q : Option Addr) (m d : Nat) (cs : List UInt8) (w : World) (hT : Row w q m d cs) (hm : m ≤ 524288) :
    Calls Tryd.prog 3 #[.slice none 0 0, .slice q m d] w fun e w' => e = .returned (.bool true) ∧ Below w.heap.size w w' := by
  go_enter Tryd.func3, Tryd.ntmps3
  go_wp2_with fail
  refine (bytes2_yes none q 0 0 m d _ (by omega)).mono ?_
  rintro e w ⟨rfl, rfl⟩
  go_wp2_with fail
  refine (zz_short none 0 0 _ (by omega)).mono ?_
  rintro e W1 ⟨rfl, rfl⟩
  obtain ⟨i0, hi, hz0, hz1, hz2⟩ := info_parts Tryd.info5
  go_wp2_with (at_make; refine wpList_make_own _ rfl _ _ 22 rfl W1.heap.size 5 i0 (.int .u8 0) 1 Tryd.underlying22 hi hz0 hz1 _ _ _ m rfl rfl (by omega) ?b2 ?b3 (Nat.le_refl _) ?_)
  case b2 => rw [hz2]; omega
  case b3 => unfold maxLen; omega
  intro w3 hown0 hgrow0
  have hb3 : Below W1.heap.size W1 w3 := (Below.refl _ _).grown hgrow0 (Nat.le_refl _) (fun k h => by cases h)
  go_wp2_with (first
    | (at_builtin; refine wpList_append_fits_any _ rfl (.tmp 41) (.tmp 42) 22 rfl W1.heap.size 5 i0 1 Tryd.underlying22 hi hz1 W1.heap.size 0 m [] rfl hown0 none 0 0 [] rfl rfl (fun e => ⟨rfl, rfl⟩) (fun ad e => by cases e) (fun u hu => by cases hu) (by omega) ?_; intro w4 hown4 hgrow4; simp only [Nat.zero_add, List.nil_append] at hown4; have hb4 : Below W1.heap.size W1 w4 := hb3.grown hgrow4 hb3.size (fun k hk => by cases hk; exact Nat.le_refl _); have R3 : Row w4 q m d cs := hT.below hb4)
    | (at_builtin; refine wpList_append_fits_any _ rfl (.tmp 44) (.tmp 45) 22 rfl W1.heap.size 5 i0 1 Tryd.underlying22 hi hz1 W1.heap.size 0 m _ rfl hown4 q m d (Lib.byteCells cs) rfl (by rw [Lib.byteCells_length, R3.len, Nat.mul_one]) (fun e => R3.nil e) (fun ad e => R3.at_ ad e) (Lib.byteCells_one _) (by omega) ?_; intro w5 hown5 hgrow5; have hb5 : Below W1.heap.size W1 w5 := hb4.grown hgrow5 hb4.size (fun k hk => by cases hk; exact Nat.le_refl _)))
  go_ret
  exact ⟨rfl, hb5⟩

set_option maxHeartbeats 1000000 in
set_option maxRecDepth 100000 in
/-- Six bytes or more, no escape: -1. -/
theorem place_other (ad : Addr) (q : Option Addr) (n c m d : Nat) (bs cs : List UInt8) (te : TypeId) (pe : Value) (w : World) (hR : Row w (some ad) n c bs) (hT : Row w q m d cs) (hn : 6 ≤ n) (hn2 : n ≤ 524288) (hm : m ≤ 524288)
    (hv : w.cell? ⟨0, 0, none⟩ = some (.iface te pe)) (hne : ¬ ((bs.getD 0 0).toNat = 92 ∧ (bs.getD 1 0).toNat = 117)) :
    Calls Tryd.prog 3 #[.slice (some ad) n c, .slice q m d] w fun e w' => e = .returned (.bool true) ∧ Below w.heap.size w w' := by
  obtain ⟨M, W1, hmk, hcp, hb1, hs1, hH⟩ := copied w ad n c bs hR (by omega)
  have HL := Lib.hid hR.len
  have hr : Hx.esc6 (bs.getD 0 0).toNat (bs.getD 1 0).toNat (bs.getD 2 0).toNat (bs.getD 3 0).toNat (bs.getD 4 0).toNat (bs.getD 5 0).toNat = -1 := by unfold Hx.esc6; rw [if_neg (by omega)]
  have hv1 : W1.cell? ⟨0, 0, none⟩ = some (.iface te pe) := (hb1.cell (p := ⟨0, 0, none⟩) (Lib.lt_of_cell hv)).trans hv
  have HE := Lib.hid hr
  have HV := Lib.hid hv1
  have HT := Lib.hid hT
  have HB := Lib.hid hb1
  have HS := Lib.hid hs1
  have HH := Lib.hid hH
  clear hR hT hb1 hs1 hH hr hv hv1
  go_enter Tryd.func3, Tryd.ntmps3
  go_wp2_with fail
  refine (bytes2_yes (some ad) q n c m d _ (by omega)).mono ?_
  rintro e w ⟨rfl, rfl⟩
  go_wp2_with fail
  refine (zz_held w.heap.size n n bs (-1) te pe _ (by rw [HL.out]; exact hn) (by rw [HL.out]; exact Nat.le_refl _) (by omega) (Nat.le_refl _) HH.out HV.out HE.out).mono ?_
  rintro e w2 ⟨rfl, hb2⟩
  have H2 := HH.out.below hb2
  have hv2 : w2.cell? ⟨0, 0, none⟩ = some (.iface te pe) := (hb2.cell (p := ⟨0, 0, none⟩) (Lib.lt_of_cell HV.out)).trans HV.out
  have HV2 := Lib.hid hv2
  have hb02 : Below w.heap.size w w2 := HB.out.trans (hb2.mono HB.out.size)
  have T2 : Row w2 q m d cs := (HT.out.below HB.out).below hb2
  clear hmk hcp HH HV HT hv2 hb2
  obtain ⟨i0, hi, hz0, hz1, hz2⟩ := info_parts Tryd.info5
  go_wp2_with (at_make; refine wpList_make_own _ rfl _ _ 22 rfl w2.heap.size 5 i0 (.int .u8 0) 1 Tryd.underlying22 hi hz0 hz1 _ _ _ (n + m) rfl rfl (by omega) ?b2 ?b3 (Nat.le_refl _) ?_)
  case b2 => rw [hz2]; omega
  case b3 => unfold maxLen; omega
  intro w3 hown0 hgrow0
  have hb3 : Below w2.heap.size w2 w3 := (Below.refl _ _).grown hgrow0 (Nat.le_refl _) (fun k h => by cases h)
  have R1 : Row w3 (some ⟨w.heap.size, 0, none⟩) n n bs := (H2.row HL.out).below hb3
  go_wp2_with (first
    | (at_builtin; refine wpList_append_fits_any _ rfl (.tmp 41) (.tmp 42) 22 rfl w2.heap.size 5 i0 1 Tryd.underlying22 hi hz1 w2.heap.size 0 (n + m) [] rfl hown0 (some ⟨w.heap.size, 0, none⟩) n n (Lib.byteCells bs) rfl (by rw [Lib.byteCells_length, R1.len, Nat.mul_one]) (fun e => R1.nil e) (fun ad e => R1.at_ ad e) (Lib.byteCells_one _) (by omega) ?_; intro w4 hown4 hgrow4; simp only [Nat.zero_add, List.nil_append] at hown4; have hb4 : Below w2.heap.size w2 w4 := hb3.grown hgrow4 hb3.size (fun k hk => by cases hk; exact Nat.le_refl _); have R3 : Row w4 q m d cs := T2.below hb4)
    | (at_builtin; refine wpList_append_fits_any _ rfl (.tmp 44) (.tmp 45) 22 rfl w2.heap.size 5 i0 1 Tryd.underlying22 hi hz1 w2.heap.size n (n + m) _ rfl hown4 q m d (Lib.byteCells cs) rfl (by rw [Lib.byteCells_length, R3.len, Nat.mul_one]) (fun e => R3.nil e) (fun ad e => R3.at_ ad e) (Lib.byteCells_one _) (by omega) ?_; intro w5 hown5 hgrow5; have hb5 : Below w2.heap.size w2 w5 := hb4.grown hgrow5 hb4.size (fun k hk => by cases hk; exact Nat.le_refl _)))
  have hv5 : w5.cell? ⟨0, 0, none⟩ = some (.iface te pe) := (hb5.cell (p := ⟨0, 0, none⟩) (Lib.lt_of_cell HV2.out)).trans HV2.out
  refine (zz_held w2.heap.size (n + m) (n + m) bs (-1) te pe _ (by rw [HL.out]; exact hn) (by rw [HL.out]; omega) (by omega) (Nat.le_refl _) (heldOf hown5 HL.out (by omega)) hv5 HE.out).mono ?_
  rintro e w6 ⟨rfl, hb6⟩
  have H6 : Held w6 w.heap.size bs := (H2.below hb5).below hb6
  have c0 := H6.cell 0 (by rw [HL.out]; omega)
  have c1 := H6.cell 1 (by rw [HL.out]; omega)
  have HF : Hid (Below w.heap.size w w6) := Lib.hid ((hb02.trans (hb5.mono hb02.size)).trans (hb6.mono (Nat.le_trans hb02.size hb5.size)))
  clear H6 R1 R3 T2 hown0 hown4 hown5 hgrow0 hgrow4 hgrow5 hb3 hb4 hb5 hb6 hb02 H2 hv5 HB HS HE HL
  generalize bs.getD 0 0 = u0 at c0 hne
  generalize bs.getD 1 0 = u1 at c1 hne
  have b0 := u0.toNat_lt
  have b1 := u1.toNat_lt
  by_cases h0 : u0.toNat = 92
  · have h1 : ((u1.toNat : Int) != 117) = true := by rw [bne_iff_ne]; omega
    have h0' : ((u0.toNat : Int) != 92) = false := by simp [h0]
    clear h0 hne
    go_wp2
    go_ret
    exact ⟨rfl, HF.out⟩
  · have h0' : ((u0.toNat : Int) != 92) = true := by rw [bne_iff_ne]; omega
    clear h0 hne
    go_wp2
    go_ret
    exact ⟨rfl, HF.out⟩

end Go.Proofs.Qxb6617450aDoor
