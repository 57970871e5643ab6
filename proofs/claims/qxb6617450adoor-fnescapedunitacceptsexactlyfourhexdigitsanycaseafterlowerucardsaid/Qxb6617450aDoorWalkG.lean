/-
  THE WALK OF FnEscapedUnitIsPlaceValueOfItsDigits WHERE text OPENS AN ESCAPE: the loop over its four bytes.
-/
import Derived.Test.Qxb6617450aDoorWalkF
namespace Go.Proofs.Qxb6617450aDoor
open Go.RowKit

theorem wantTo_step (bs : List UInt8) (k : Nat) (h : 2 ≤ k) : Hx.wantTo bs (k + 1 - 2) = if Hx.hexv ((bs.getD k 0).toNat : Int) < 0 then Hx.wantTo bs (k - 2) else Hx.wantTo bs (k - 2) * 16 + Hx.hexv ((bs.getD k 0).toNat : Int) := by
  obtain ⟨j, rfl⟩ : ∃ j, k = j + 2 := ⟨k - 2, by omega⟩
  rfl
theorem allTo_step (bs : List UInt8) (k : Nat) (h : 2 ≤ k) : Hx.allTo bs (k + 1 - 2) = if Hx.hexv ((bs.getD k 0).toNat : Int) < 0 then false else Hx.allTo bs (k - 2) := by
  obtain ⟨j, rfl⟩ : ∃ j, k = j + 2 := ⟨k - 2, by omega⟩
  rfl

set_option maxHeartbeats 400000 in
/-- ZZescapedUnit at the new block that holds the escape of one byte. -/
theorem zz_one (c : UInt8) (te : TypeId) (pe : Value) (w : World) (hv : w.cell? ⟨0, 0, none⟩ = some (.iface te pe)) :
    Calls Tryd.prog 6 #[.slice (some ⟨w.heap.size, 0, none⟩) 6 6] (w.alloc (.cells #[.int .u8 92, .int .u8 117, .int .u8 48, .int .u8 48, .int .u8 48, .int .u8 c.toNat] 5)) fun e w' => e = .returned (.int .i32 (Hx.hexv c.toNat)) ∧ Below w.heap.size w w' := by
  have hb : Below w.heap.size w (w.alloc (.cells #[.int .u8 92, .int .u8 117, .int .u8 48, .int .u8 48, .int .u8 48, .int .u8 c.toNat] 5)) := (Below.refl _ _).alloc (Nat.le_refl _) _
  have hr := Hx.esc6_one c.toNat
  refine (zz_long w.heap.size 0 6 6 92 117 48 48 48 c te pe _ (by omega) (by omega) (by omega) ⟨by simp, by simp, by simp, by simp, by simp, by simp⟩ ((hb.cell (p := ⟨0, 0, none⟩) (Lib.lt_of_cell hv)).trans hv)).mono ?_
  rintro e w' ⟨rfl, h⟩
  exact ⟨ret_int hr, hb.trans (h.mono hb.size)⟩

set_option maxHeartbeats 1000000 in
set_option maxRecDepth 100000 in
/-- An escape. -/
theorem place_escape (ad : Addr) (q : Option Addr) (n c m d : Nat) (bs cs : List UInt8) (te : TypeId) (pe : Value) (w : World) (hR : Row w (some ad) n c bs) (hT : Row w q m d cs) (hn : 6 ≤ n) (hn2 : n ≤ 524288) (hm : m ≤ 524288)
    (hv : w.cell? ⟨0, 0, none⟩ = some (.iface te pe)) (h0 : (bs.getD 0 0).toNat = 92) (h1 : (bs.getD 1 0).toNat = 117) :
    Calls Tryd.prog 3 #[.slice (some ad) n c, .slice q m d] w fun e w' => e = .returned (.bool true) ∧ Below w.heap.size w w' := by
  obtain ⟨M, W1, hmk, hcp, hb1, hs1, hH⟩ := copied w ad n c bs hR (by omega)
  have HL := Lib.hid hR.len
  obtain ⟨r, hr⟩ : ∃ r, Hx.esc6 (bs.getD 0 0).toNat (bs.getD 1 0).toNat (bs.getD 2 0).toNat (bs.getD 3 0).toNat (bs.getD 4 0).toNat (bs.getD 5 0).toNat = r := ⟨_, rfl⟩
  have hr4 : Hx.esc4 (bs.getD 2 0).toNat (bs.getD 3 0).toNat (bs.getD 4 0).toNat (bs.getD 5 0).toNat = r := by rw [← hr]; unfold Hx.esc6; rw [if_pos (by omega)]
  have H4 := Lib.hid hr4
  have H0 := Lib.hid h0
  have H1 := Lib.hid h1
  have hv1 : W1.cell? ⟨0, 0, none⟩ = some (.iface te pe) := (hb1.cell (p := ⟨0, 0, none⟩) (Lib.lt_of_cell hv)).trans hv
  have HE := Lib.hid hr
  have HV := Lib.hid hv1
  have HT := Lib.hid hT
  have HB := Lib.hid hb1
  have HS := Lib.hid hs1
  have HH := Lib.hid hH
  clear hR hT hb1 hs1 hH hr hv hv1 hr4 h0 h1
  go_enter Tryd.func3, Tryd.ntmps3
  go_wp2_with fail
  refine (bytes2_yes (some ad) q n c m d _ (by omega)).mono ?_
  rintro e w ⟨rfl, rfl⟩
  go_wp2_with fail
  refine (zz_held w.heap.size n n bs r te pe _ (by rw [HL.out]; exact hn) (by rw [HL.out]; exact Nat.le_refl _) (by omega) (Nat.le_refl _) HH.out HV.out HE.out).mono ?_
  rintro e w2 ⟨rfl, hb2⟩
  have H2 := HH.out.below hb2
  have hv2 : w2.cell? ⟨0, 0, none⟩ = some (.iface te pe) := (hb2.cell (p := ⟨0, 0, none⟩) (Lib.lt_of_cell HV.out)).trans HV.out
  have HV2 := Lib.hid hv2
  have hb02 : Below w.heap.size w w2 := HB.out.trans (hb2.mono HB.out.size)
  have T2 : Row w2 q m d cs := (HT.out.below HB.out).below hb2
  clear hmk hcp HH HV HT hv2 hb2
  obtain ⟨i0, hi, hz0, hz1, hz2⟩ := info_parts Tryd.info5
  go_wp2_with (at_make; refine wpList_make_own _ rfl _ _ 22 rfl w2.heap.size 5 i0 (.int .u8 0) 1 Tryd.underlying22 hi hz0 hz1 _ _ _ (n + m) rfl rfl (by omega) ?b2 ?b3 (Nat.le_refl _) ?_)
  case b2 => rw [hz2]; omega
  case b3 => unfold maxLen; omega
  intro w3 hown0 hgrow0
  have hb3 : Below w2.heap.size w2 w3 := (Below.refl _ _).grown hgrow0 (Nat.le_refl _) (fun k h => by cases h)
  have R1 : Row w3 (some ⟨w.heap.size, 0, none⟩) n n bs := (H2.row HL.out).below hb3
  go_wp2_with (first
    | (at_builtin; refine wpList_append_fits_any _ rfl (.tmp 41) (.tmp 42) 22 rfl w2.heap.size 5 i0 1 Tryd.underlying22 hi hz1 w2.heap.size 0 (n + m) [] rfl hown0 (some ⟨w.heap.size, 0, none⟩) n n (Lib.byteCells bs) rfl (by rw [Lib.byteCells_length, R1.len, Nat.mul_one]) (fun e => R1.nil e) (fun ad e => R1.at_ ad e) (Lib.byteCells_one _) (by omega) ?_; intro w4 hown4 hgrow4; simp only [Nat.zero_add, List.nil_append] at hown4; have hb4 : Below w2.heap.size w2 w4 := hb3.grown hgrow4 hb3.size (fun k hk => by cases hk; exact Nat.le_refl _); have R3 : Row w4 q m d cs := T2.below hb4)
    | (at_builtin; refine wpList_append_fits_any _ rfl (.tmp 44) (.tmp 45) 22 rfl w2.heap.size 5 i0 1 Tryd.underlying22 hi hz1 w2.heap.size n (n + m) _ rfl hown4 q m d (Lib.byteCells cs) rfl (by rw [Lib.byteCells_length, R3.len, Nat.mul_one]) (fun e => R3.nil e) (fun ad e => R3.at_ ad e) (Lib.byteCells_one _) (by omega) ?_; intro w5 hown5 hgrow5; have hb5 : Below w2.heap.size w2 w5 := hb4.grown hgrow5 hb4.size (fun k hk => by cases hk; exact Nat.le_refl _)))
  have hv5 : w5.cell? ⟨0, 0, none⟩ = some (.iface te pe) := (hb5.cell (p := ⟨0, 0, none⟩) (Lib.lt_of_cell HV2.out)).trans HV2.out
  refine (zz_held w2.heap.size (n + m) (n + m) bs r te pe _ (by rw [HL.out]; exact hn) (by rw [HL.out]; omega) (by omega) (Nat.le_refl _) (heldOf hown5 HL.out (by omega)) hv5 HE.out).mono ?_
  rintro e w6 ⟨rfl, hb6⟩
  have H6 : Held w6 w.heap.size bs := (H2.below hb5).below hb6
  have c0 := H6.cell 0 (by rw [HL.out]; omega)
  have c1 := H6.cell 1 (by rw [HL.out]; omega)
  have HF : Hid (Below w.heap.size w w6) := Lib.hid ((hb02.trans (hb5.mono hb02.size)).trans (hb6.mono (Nat.le_trans hb02.size hb5.size)))
  have hv6 : w6.cell? ⟨0, 0, none⟩ = some (.iface te pe) := (hb6.cell (p := ⟨0, 0, none⟩) (Lib.lt_of_cell hv5)).trans hv5
  rw [H0.out] at c0
  rw [H1.out] at c1
  clear R1 R3 T2 hown0 hown4 hown5 hgrow0 hgrow4 hgrow5 hb3 hb4 hb5 hb6 hb02 H2 hv5 HB HS HE HV2 hi hz0 hz1 hz2
  have HV6 := Lib.hid hv6
  clear hv6
  go_wp2
  go_loopw [8, 9, 10] (fun vw va vi wr => ∃ (k : Nat) (x : Int) (y : Bool), vw = .int .i32 x ∧ va = .bool y ∧ vi = .int .i64 k ∧ 2 ≤ k ∧ k ≤ 6 ∧ Hid (x = Hx.wantTo bs (k - 2)) ∧ Hid (y = Hx.allTo bs (k - 2)) ∧ Below w6.heap.size w6 wr)
    (fun _ _ vi _ => 6 - (intOf vi).toNat)
  case atStart => exact ⟨2, 0, true, rfl, rfl, rfl, by omega, by omega, rfl, rfl, Below.refl _ _⟩
  case round =>
    obtain ⟨k, x, y, rfl, rfl, rfl, hk2, hk6, HX, HY, hbr⟩ := hrel
    by_cases hk : k < 6
    · have hx := Hx.wantTo_le bs (k - 2) (by omega)
      rw [← HX.out] at hx
      obtain ⟨hx0, hx1⟩ := hx
      have hck := (H6.below hbr).cell k (by rw [HL.out]; omega)
      have hvr : wr.cell? ⟨0, 0, none⟩ = some (.iface te pe) := (hbr.cell (p := ⟨0, 0, none⟩) (Lib.lt_of_cell HV6.out)).trans HV6.out
      have HVR := Lib.hid hvr
      have HXS := Lib.hid (wantTo_step bs k hk2)
      have HYS := Lib.hid (allTo_step bs k hk2)
      have hsz := hbr.size
      generalize bs.getD k 0 = cc at hck HXS HYS
      have hcb := cc.toNat_lt
      have hxb := Hx.hexv_bd cc.toNat
      obtain ⟨hxb0, hxb1⟩ := hxb
      clear hvr c0 c1
      go_wp2_with fail
      refine (zz_one cc te pe wr HVR.out).mono ?_
      rintro e w7 ⟨rfl, hb7⟩
      have hb67 : Hid (Below w6.heap.size w6 w7) := Lib.hid (hbr.trans (hb7.mono hsz))
      clear hb7 hck
      generalize hgx : Hx.hexv cc.toNat = dd at *
      have HG := Lib.hid hgx
      clear hgx
      by_cases hd : dd < 0
      · go_wp2_with (go_at_call 7; refine (hexDigit_any cc.toNat _ (by omega) (by omega)).mono ?_; rw [HG.out]; rintro e w8 ⟨rfl, rfl⟩)
        go_roundw
        case rel => exact ⟨k + 1, x, false, rfl, rfl, by go_num, by omega, by omega, by rw [HXS.out, if_pos hd, ← HX.out]; exact rfl, by rw [HYS.out, if_pos hd]; exact rfl, hb67.out⟩
        case measure => simp [intOf]; omega
      · go_wp2_with (go_at_call 7; refine (hexDigit_any cc.toNat _ (by omega) (by omega)).mono ?_; rw [HG.out]; rintro e w8 ⟨rfl, rfl⟩)
        go_roundw
        case rel => exact ⟨k + 1, x * 16 + dd, y, rfl, rfl, by go_num, by omega, by omega, by rw [HXS.out, if_neg (by omega), ← HX.out]; exact rfl, by rw [HYS.out, if_neg (by omega), ← HY.out]; exact rfl, hb67.out⟩
        case measure => simp [intOf]; omega
    · have hk : k = 6 := by omega
      subst hk
      have HF2 : Hid (Below w.heap.size w wr) := Lib.hid (HF.out.trans (hbr.mono HF.out.size))
      cases y with
      | true =>
        have hrx : x = r := by rw [HX.out, ← H4.out]; exact (Hx.all4 bs HY.out.symm).symm
        subst hrx
        clear hbr c0 c1
        go_wp2
        go_ret
        exact ⟨rfl, HF2.out⟩
      | false =>
        have hrx : r = -1 := by rw [← H4.out]; exact Hx.none4 bs HY.out.symm
        subst hrx
        clear hbr c0 c1
        go_wp2
        go_ret
        exact ⟨rfl, HF2.out⟩

end Go.Proofs.Qxb6617450aDoor
