/-
  THE WALK OF FnEscapedUnitAcceptsExactlyFourHexDigitsAnyCaseAfterLowerU: no escape: the first byte
-/
import Derived.Test.Qxb6617450aDoorWalkH
namespace Go.Proofs.Qxb6617450aDoor
open Go.RowKit

set_option maxHeartbeats 2000000 in
set_option maxRecDepth 100000 in
theorem accept_other0 (ad : Addr) (n c : Nat) (bs : List UInt8) (te : TypeId) (pe : Value) (w : World) (hR : Row w (some ad) n c bs) (hn : 6 ≤ n) (hn2 : n ≤ 1048576)
    (hv : w.cell? ⟨0, 0, none⟩ = some (.iface te pe)) (u0 : UInt8) (hu0 : bs.getD 0 0 = u0) (h92 : ((u0.toNat : Int) == 92) = false) :
    Calls Tryd.prog 4 #[.slice (some ad) n c] w fun e w' => e = .returned (.bool true) ∧ Below w.heap.size w w' := by
  obtain ⟨M, W1, hmk, hcp, hb1, hs1, hH⟩ := copied w ad n c bs hR (by omega)
  have HL := Lib.hid hR.len
  obtain ⟨r, hr⟩ : ∃ r, Hx.esc6 (bs.getD 0 0).toNat (bs.getD 1 0).toNat (bs.getD 2 0).toNat (bs.getD 3 0).toNat (bs.getD 4 0).toNat (bs.getD 5 0).toNat = r := ⟨_, rfl⟩
  have hrb := Hx.esc6_bd (bs.getD 0 0).toNat (bs.getD 1 0).toNat (bs.getD 2 0).toNat (bs.getD 3 0).toNat (bs.getD 4 0).toNat (bs.getD 5 0).toNat
  rw [hr] at hrb
  obtain ⟨hrb0, hrb1⟩ := hrb
  have hsg : r < 0 := by
    have h1 : ¬ ((bs.getD 0 0).toNat : Int) = 92 := by rw [hu0]; exact beq_eq_false_iff_ne.1 h92
    rw [← hr]; unfold Hx.esc6; rw [if_neg (fun h => h1 h.1)]; decide
  have hv1 : W1.cell? ⟨0, 0, none⟩ = some (.iface te pe) := (hb1.cell (p := ⟨0, 0, none⟩) (Lib.lt_of_cell hv)).trans hv
  have HE := Lib.hid hr
  have HV := Lib.hid hv1
  have HB := Lib.hid hb1
  have HH := Lib.hid hH
  have HU := Lib.hid hu0
  clear hu0
  clear hR hb1 hs1 hH hr hv hv1
  go_enter Tryd.func4, Tryd.ntmps4
  go_wp2_with fail
  refine (bytes1_yes (some ad) n c _ (by omega)).mono ?_
  rintro e w ⟨rfl, rfl⟩
  go_wp2_with fail
  refine (zz_held w.heap.size n n bs r te pe _ (by rw [HL.out]; exact hn) (by rw [HL.out]; exact Nat.le_refl _) (by omega) (Nat.le_refl _) HH.out HV.out HE.out).mono ?_
  rintro e w2 ⟨rfl, hb2⟩
  have H2 := HH.out.below hb2
  have hv2 : w2.cell? ⟨0, 0, none⟩ = some (.iface te pe) := (hb2.cell (p := ⟨0, 0, none⟩) (Lib.lt_of_cell HV.out)).trans HV.out
  have HV2 := Lib.hid hv2
  have HB02 : Hid (Below w.heap.size w w2) := Lib.hid (HB.out.trans (hb2.mono HB.out.size))
  have hgl : w.heap.size < w2.heap.size := by have := Lib.lt_of_cell (H2.cell 0 (by rw [HL.out]; omega)); exact this
  have c0 := H2.cell 0 (by rw [HL.out]; omega)
  have c1 := H2.cell 1 (by rw [HL.out]; omega)
  rw [HU.out] at c0
  clear hmk hcp HH HV HB hv2 hb2
  go_wp2
  go_loop [5, 6] (fun va vi => ∃ (k : Nat) (y : Bool), va = .bool y ∧ vi = .int .i64 k ∧ 2 ≤ k ∧ k ≤ 6 ∧ Hid (y = (false && Hx.allTo bs (k - 2)))) (fun _ vi => 6 - (intOf vi).toNat)
  case atStart => exact ⟨2, false, rfl, rfl, by omega, by omega, rfl⟩
  case round =>
    obtain ⟨k, y, rfl, rfl, hk2, hk6, HY⟩ := hrel
    by_cases hk : k < 6
    · have hck := H2.cell k (by rw [HL.out]; omega)
      have HYS := Lib.hid (allTo_step bs k hk2)
      generalize bs.getD k 0 = cc at hck HYS
      have hcb := cc.toNat_lt
      obtain ⟨hxb0, hxb1⟩ := Hx.hexv_bd cc.toNat
      by_cases hd : Hx.hexv cc.toNat < 0
      · go_wp2_with (go_at_call 7; refine (hexDigit_any cc.toNat _ (by omega) (by omega)).mono ?_; rintro e w8 ⟨rfl, rfl⟩)
        go_round
        case rel => exact ⟨k + 1, false, rfl, by go_num, by omega, by omega, by rw [HYS.out, if_pos (by omega), Bool.and_false]; exact rfl⟩
        case measure => simp [intOf]; omega
      · go_wp2_with (go_at_call 7; refine (hexDigit_any cc.toNat _ (by omega) (by omega)).mono ?_; rintro e w8 ⟨rfl, rfl⟩)
        go_round
        case rel => exact ⟨k + 1, y, rfl, by go_num, by omega, by omega, by rw [HYS.out, if_neg (by omega)]; exact HY⟩
        case measure => simp [intOf]; omega
    · have hk6e : k = 6 := by omega
      rw [hk6e] at HY
      clear hk6e
      have hy : y = false := by rw [HY.out]; rfl
      subst hy
      clear HY
      obtain ⟨i0, hi, hz0, hz1, hz2⟩ := info_parts Tryd.info5
      go_wp2_with (at_make; refine wpList_make_full _ rfl _ _ 22 rfl w2.heap.size 5 i0 (.int .u8 0) 1 Tryd.underlying22 hi hz0 hz1 _ _ _ _ 6 rfl rfl rfl rfl (by rw [hz2]; decide) (by unfold maxLen; omega) (Nat.le_refl _) ?_)
      intro w3 hown3 hgrow3
      have hb3 : Below w2.heap.size w2 w3 := (Below.refl _ _).grown hgrow3 (Nat.le_refl _) (fun k h => by cases h)
      have S3 : Six6 w3 w2.heap.size (Hx.six (Hx.cp bs 0)) := ⟨rfl, by rw [toList_madeCells_one] at hown3; rw [Hx.cp0]; exact hown3⟩
      clear hown3 hgrow3
      have Q3 : Hid (Six6 w3 w2.heap.size (Hx.six (Hx.cp bs 0))) := Lib.hid S3
      clear S3 c0 c1
      go_wp2
      go_loopw [8] (fun vi wr => ∃ (k : Nat), vi = .int .i64 k ∧ k ≤ 6 ∧ Hid (Six6 wr w2.heap.size (Hx.six (Hx.cp bs k))) ∧ Below w2.heap.size w2 wr) (fun vi _ => 6 - (intOf vi).toNat)
      case atStart => exact ⟨0, rfl, by omega, Q3, hb3⟩
      case round =>
        obtain ⟨k, rfl, hk6, HS, hbr⟩ := hrel
        by_cases hk : k < 6
        · have hck := (H2.below hbr).cell k (by rw [HL.out]; omega)
          have hdk := HS.out.cell k hk
          have hfk := HS.out.free k
          have HN : Hid (Six6 (wr.setCell ⟨w2.heap.size, k, none⟩ (.int .u8 (bs.getD k 0).toNat)) w2.heap.size (Hx.six (Hx.cp bs (k + 1)))) := Lib.hid (by rw [← Hx.cp_set bs k hk]; exact HS.out.set k _)
          have HBN : Hid (Below w2.heap.size w2 (wr.setCell ⟨w2.heap.size, k, none⟩ (.int .u8 (bs.getD k 0).toNat))) := Lib.hid (hbr.setCell (Nat.le_refl _) _)
          clear HS hbr
          generalize bs.getD k 0 = cc at hck HN HBN
          generalize (Hx.six (Hx.cp bs k)).getD k 0 = dd at hdk
          go_wp2
          go_roundw
          case rel => exact ⟨k + 1, by go_num, by omega, HN, HBN.out⟩
          case measure => simp [intOf]; omega
        · have hk6e : k = 6 := by omega
          rw [hk6e] at HS
          clear hk6e
          have Q4 : Hid (Six6 wr w2.heap.size (Hx.six (Hx.cs bs 2))) := Lib.hid (by rw [Hx.cs2]; exact HS.out)
          have hb4 := hbr
          clear HS hbr Q3 hb3
          go_wp2
          go_loopw [9] (fun vi wq => ∃ (k : Nat), vi = .int .i64 k ∧ 2 ≤ k ∧ k ≤ 6 ∧ Hid (Six6 wq w2.heap.size (Hx.six (Hx.cs bs k))) ∧ Below w2.heap.size w2 wq) (fun vi _ => 6 - (intOf vi).toNat)
          case atStart => exact ⟨2, rfl, by omega, by omega, Q4, hb4⟩
          case round =>
            obtain ⟨k, rfl, hk2, hk6, HS, hbr⟩ := hrel
            by_cases hk : k < 6
            · have hck := (H2.below hbr).cell k (by rw [HL.out]; omega)
              have hdk := HS.out.cell k hk
              have hfk := HS.out.free k
              have HN : Hid (Six6 (wr.setCell ⟨w2.heap.size, k, none⟩ (.int .u8 (Hx.sw (bs.getD k 0)).toNat)) w2.heap.size (Hx.six (Hx.cs bs (k + 1)))) := Lib.hid (by rw [← Hx.cs_set bs k hk2 hk]; exact HS.out.set k _)
              have HBN : Hid (Below w2.heap.size w2 (wr.setCell ⟨w2.heap.size, k, none⟩ (.int .u8 (Hx.sw (bs.getD k 0)).toNat))) := Lib.hid (hbr.setCell (Nat.le_refl _) _)
              clear HS hbr
              generalize bs.getD k 0 = cc at hck HN HBN
              generalize (Hx.six (Hx.cs bs k)).getD k 0 = dd at hdk
              go_wp2_with fail
              refine (swap_any cc _).mono ?_
              rintro e w8 ⟨rfl, rfl⟩
              go_wp2
              go_roundw
              case rel => exact ⟨k + 1, by go_num, by omega, by omega, HN, HBN.out⟩
              case measure => simp [intOf]; omega
            · have hk6e : k = 6 := by omega
              rw [hk6e] at HS
              clear hk6e
              have hv5 : wr.cell? ⟨0, 0, none⟩ = some (.iface te pe) := (hbr.cell (p := ⟨0, 0, none⟩) (Lib.lt_of_cell HV2.out)).trans HV2.out
              have HV5 := Lib.hid hv5
              clear hv5
              go_wp2_with fail
              refine (zz_held w2.heap.size 6 6 (Hx.six (Hx.cs bs 6)) r te pe _ (Nat.le_refl _) (Nat.le_refl _) (by omega) (Nat.le_refl _) HS.out.held HV5.out ((Hx.esc6_sw _ _ _ _ _ _).trans HE.out)).mono ?_
              rintro e w6 ⟨rfl, hb6⟩
              have hb26 : Below w2.heap.size w2 w6 := hbr.trans (hb6.mono hbr.size)
              have H6 : Held w6 w.heap.size bs := H2.below hb26
              have c0 := H6.cell 0 (by rw [HL.out]; omega)
              have c1 := H6.cell 1 (by rw [HL.out]; omega)
              rw [HU.out] at c0
              have HF : Hid (Below w.heap.size w w6) := Lib.hid (HB02.out.trans (hb26.mono (by omega)))
              clear hb6 hbr HS HV5 Q4 hb4
              go_wp2
              go_ret
              exact ⟨rfl, HF.out⟩

end Go.Proofs.Qxb6617450aDoor
