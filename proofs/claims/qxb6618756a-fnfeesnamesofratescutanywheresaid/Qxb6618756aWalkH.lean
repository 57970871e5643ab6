/-
  FnFeesNamesOfRatesCutAnywhere.
-/
import Derived.Test.Qxb6618756aWalkG
import Derived.Test.Qxb6618756aCutPlain
namespace Go.Proofs.Qxb6618756a
open Go.RowKit

theorem RCells.take {w : World} {b off n : Nat} {ss : List ByteArray} (h : RCells w b off n ss) {k : Nat} (hk : k ≤ n) : RCells w b off k (ss.take k) := by
  intro j hj
  have hg : (ss.take k).getD j ByteArray.empty = ss.getD j ByteArray.empty := by simp [List.getD, hj]
  rw [hg]; exact h j (by omega)
theorem RCells.drop {w : World} {b off n : Nat} {ss : List ByteArray} (h : RCells w b off n ss) {k : Nat} (hk : k ≤ n) : RCells w b (off + k * 4) (n - k) (ss.drop k) := by
  intro j hj
  have hg : (ss.drop k).getD j ByteArray.empty = ss.getD (k + j) ByteArray.empty := by simp [List.getD]
  have e : off + k * 4 + j * 4 = off + (k + j) * 4 := by omega
  rw [hg, e]; exact h (k + j) (by omega)

set_option maxHeartbeats 1600000 in
set_option maxRecDepth 100000 in
theorem cut_walk (p q : Option Addr) (n c m d : Nat) (ss ts : List ByteArray) (k0 : Int) (w : World) (h : SRow w p n ss) (h' : SRow w q m ts)
    (hn : n ≤ 9223372036854775807) (hm : m ≤ 9223372036854775807) (hs : Small 9223372036854775807 ss) (ht : Small 9223372036854775807 ts) :
    Calls Try.prog 4 #[.slice p n c, .slice q m d, .int .i64 k0] w fun e w' => LawPost w e w' := by
  have H := Lib.hid h
  have H' := Lib.hid h'
  have HS := Lib.hid hs
  have HT := Lib.hid ht
  clear h h' hs ht
  go_enter Try.func4, Try.ntmps4
  go_wp2_with fail
  refine (bytesB_any p q n c m d ss ts k0 _ H.out H'.out hn hm HS.out HT.out).mono ?_
  rintro e w0 ⟨rfl, rfl | ⟨rfl, hn1, hm1, hs1, ht1⟩⟩
  · go_wp2
    go_ret
    exact LawPost.mk (Below.refl _ _)
  have S1 := Lib.hid hs1
  have T1 := Lib.hid ht1
  clear HS HT hs1 ht1
  by_cases hn2 : n ≤ 4096
  case neg =>
    go_wp2
    go_ret
    exact LawPost.mk (Below.refl _ _)
  by_cases hm2 : m ≤ 4096
  case neg =>
    go_wp2
    go_ret
    exact LawPost.mk (Below.refl _ _)
  have hd1 : decide ((4096 : Int) < n) = false := by simp; omega
  have hd2 : decide ((4096 : Int) < m) = false := by simp; omega
  go_wp2
  go_loop [7, 8] (fun vz vi => ∃ (k : Nat) (z : Int), vz = .int .i64 z ∧ vi = .int .i64 k ∧ 0 ≤ z ∧ z ≤ 1048576 ∧ k ≤ n) (fun _ vi => n - (intOf vi).toNat)
  case atStart => exact ⟨0, 0, rfl, rfl, by omega, by omega, Nat.zero_le _⟩
  case round =>
    obtain ⟨k, z, rfl, rfl, hz0, hz1, hk⟩ := hrel
    by_cases hkn : k < n
    · obtain ⟨b, off, rfl, hc⟩ := H.out.at_ hkn
      have hck := hc k hkn
      have hsz := S1.out k (by rw [H.out.1]; exact hkn)
      generalize ss.getD k ByteArray.empty = y at hck hsz
      clear hc
      by_cases h2 : z + (16 + (y.size : Int)) ≤ 1048576
      · go_wp2
        go_round
        case rel => exact ⟨k + 1, z + (16 + (y.size : Int)), by first | rfl | go_num, by go_num, by omega, by omega, by omega⟩
        case measure => simp [intOf]; omega
      · go_wp2
        go_ret
        exact LawPost.mk (Below.refl _ _)
    · go_wp2
      go_loop [7, 9] (fun vz vi => ∃ (k : Nat) (z : Int), vz = .int .i64 z ∧ vi = .int .i64 k ∧ 0 ≤ z ∧ z ≤ 1048576 ∧ k ≤ m) (fun _ vi => m - (intOf vi).toNat)
      case atStart => exact ⟨0, z, rfl, rfl, by omega, by omega, Nat.zero_le _⟩
      case round =>
        obtain ⟨k, z, rfl, rfl, hz0, hz1, hk⟩ := hrel
        by_cases hkm : k < m
        · obtain ⟨b, off, rfl, hc⟩ := H'.out.at_ hkm
          have hck := hc k hkm
          have hsz := T1.out k (by rw [H'.out.1]; exact hkm)
          generalize ts.getD k ByteArray.empty = y at hck hsz
          clear hc
          by_cases h2 : z + (16 + (y.size : Int)) ≤ 1048576
          · go_wp2
            go_round
            case rel => exact ⟨k + 1, z + (16 + (y.size : Int)), by first | rfl | go_num, by go_num, by omega, by omega, by omega⟩
            case measure => simp [intOf]; omega
          · go_wp2
            go_ret
            exact LawPost.mk (Below.refl _ _)
        · clear S1 T1
          by_cases hk0 : k0 < 0
          · go_wp2
            go_ret
            exact LawPost.mk (Below.refl _ _)
          by_cases hkn0 : (n : Int) < k0
          · go_wp2
            go_ret
            exact LawPost.mk (Below.refl _ _)
          obtain ⟨kk, rfl⟩ : ∃ kk : Nat, k0 = kk := ⟨k0.toNat, by omega⟩
          have hkk : kk ≤ n := by omega
          clear hk0 hkn0
          go_wp2_with fail
          refine (clone_any p n c ss _ H.out hn1).mono ?_
          rintro e w1 ⟨v0, rfl, hO0, hb1⟩
          obtain ⟨p0, c0, rfl, hR0⟩ := hO0.shape H.out.1
          have R0 := Lib.hid hR0
          have B1 := Lib.hid hb1
          have T1 := Lib.hid (H'.out.below hb1)
          clear hO0 hR0 hb1
          go_wp2_with fail
          refine (clone_any q m d ts _ T1.out hm1).mono ?_
          rintro e w2 ⟨v1, rfl, hO1, hb2⟩
          obtain ⟨p1, c1, rfl, hR1⟩ := hO1.shape H'.out.1
          have R1 := Lib.hid hR1
          have B2 : Hid (Below w0.heap.size w0 w2) := Lib.hid (B1.out.trans (hb2.mono B1.out.size))
          have R0b := Lib.hid (R0.out.below hb2)
          clear hO1 hR1 hb2 T1 R0 B1
          go_wp2_with fail
          refine (clone_any p0 n c0 ss _ R0b.out hn1).mono ?_
          rintro e w3 ⟨v2, rfl, hO2, hb3⟩
          obtain ⟨p2, c2, rfl, hR2⟩ := hO2.shape H.out.1
          have R2 := Lib.hid hR2
          have B3 : Hid (Below w0.heap.size w0 w3) := Lib.hid (B2.out.trans (hb3.mono B2.out.size))
          have R0c := Lib.hid (R0b.out.below hb3)
          have R1c := Lib.hid (R1.out.below hb3)
          clear hO2 hR2 hb3 R0b R1 B2
          go_wp2_with fail
          refine (rates_any p0 p1 n c0 m c1 ss ts _ R0c.out R1c.out hn2).mono ?_
          rintro e w4 ⟨rfl, hC, hb4⟩
          have C4 := Lib.hid hC
          have B4 : Hid (Below w0.heap.size w0 w4) := Lib.hid (B3.out.trans (hb4.mono B3.out.size))
          have R2d := Lib.hid (R2.out.below hb4)
          clear hC hb4 R0c R1c R2 B3
          have hb5 : Below w4.heap.size w4 (w4.alloc (.cells #[.slice (some ⟨w3.heap.size, 0, none⟩) n n, .int .i64 0, .int .i64 0] 29)) := (Below.refl _ _).alloc (Nat.le_refl _) _
          have hf5 : (w4.alloc (.cells #[.slice (some ⟨w3.heap.size, 0, none⟩) n n, .int .i64 0, .int .i64 0] 29)).cell? ⟨w4.heap.size, 0, none⟩ = some (.slice (some ⟨w3.heap.size, 0, none⟩) n n) := by simp
          have B5 := Lib.hid hb5
          have F5 := Lib.hid hf5
          clear hb5 hf5
          go_wp2_with fail
          refine (names_any w4.heap.size _ n n ss _ F5.out H.out.1 hn2 (.inr ⟨_, _, rfl, C4.out.below B5.out⟩)).mono ?_
          rintro e w6 ⟨v6, rfl, hO6, hb6⟩
          obtain ⟨m6, hm6⟩ : ∃ m6, (Dd.dd ss).length = m6 := ⟨_, rfl⟩
          have hm6n : m6 ≤ n := by rw [← hm6, ← H.out.1]; exact Dd.dd_len ss
          obtain ⟨p6, c6, rfl, hR6⟩ := hO6.shape hm6
          have R6 := Lib.hid hR6
          have M6 := Lib.hid hm6
          have B6 : Hid (Below w0.heap.size w0 w6) := Lib.hid ((B4.out.trans (B5.out.mono B4.out.size)).trans (hb6.mono (Nat.le_trans B4.out.size B5.out.size)))
          have R2e := Lib.hid ((R2d.out.below B5.out).below hb6)
          have C6 := Lib.hid ((C4.out.below B5.out).below hb6)
          clear hO6 hm6 hR6 hb6 C4 F5 B5 B4 R2d
          have hb7 : Below w6.heap.size w6 (w6.alloc (.cells #[.slice (some ⟨w3.heap.size, 0, none⟩) kk n, .int .i64 0, .int .i64 0] 29)) := (Below.refl _ _).alloc (Nat.le_refl _) _
          have hf7 : (w6.alloc (.cells #[.slice (some ⟨w3.heap.size, 0, none⟩) kk n, .int .i64 0, .int .i64 0] 29)).cell? ⟨w6.heap.size, 0, none⟩ = some (.slice (some ⟨w3.heap.size, 0, none⟩) kk n) := by simp
          have B7 := Lib.hid hb7
          have F7 := Lib.hid hf7
          have hlk : (ss.take kk).length = kk := by rw [List.length_take, H.out.1]; omega
          have LK := Lib.hid hlk
          clear hb7 hf7 hlk
          go_wp2_with fail
          refine (names_any w6.heap.size _ kk n (ss.take kk) _ F7.out LK.out (by omega) (.inr ⟨_, _, rfl, (C6.out.below B7.out).take hkk⟩)).mono ?_
          rintro e w8 ⟨v8, rfl, hO8, hb8⟩
          obtain ⟨m8, hm8⟩ : ∃ m8, (Dd.dd (ss.take kk)).length = m8 := ⟨_, rfl⟩
          have hm8n : m8 ≤ kk := by rw [← hm8]; have := Dd.dd_len (ss.take kk); rw [LK.out] at this; exact this
          obtain ⟨p8, c8, rfl, hR8⟩ := hO8.shape hm8
          have R8 := Lib.hid hR8
          have M8 := Lib.hid hm8
          have B8 : Hid (Below w0.heap.size w0 w8) := Lib.hid ((B6.out.trans (B7.out.mono B6.out.size)).trans (hb8.mono (Nat.le_trans B6.out.size B7.out.size)))
          have R2g := Lib.hid ((R2e.out.below B7.out).below hb8)
          have R6g := Lib.hid ((R6.out.below B7.out).below hb8)
          have C8 := Lib.hid ((C6.out.below B7.out).below hb8)
          clear hO8 hm8 hR8 hb8 C6 F7 B7 B6 R2e R6
          have hlb : (ss.drop kk).length = n - kk := by rw [List.length_drop, H.out.1]
          have LB := Lib.hid hlb
          obtain ⟨mb, hmb⟩ : ∃ mb, (Dd.dd (ss.drop kk)).length = mb := ⟨_, rfl⟩
          have hmbn : mb ≤ n - kk := by rw [← hmb, ← hlb]; exact Dd.dd_len _
          have MB := Lib.hid hmb
          clear hlb hmb
          rcases (show kk = n ∨ kk < n by omega) with hcut | hcut
          case' inl =>
            subst hcut
            have hz : kk - kk = 0 := Nat.sub_self kk
            have hb9 : Below w8.heap.size w8 (w8.alloc (.cells #[.slice (some ⟨w3.heap.size, 0, none⟩) 0 0, .int .i64 0, .int .i64 0] 29)) := (Below.refl _ _).alloc (Nat.le_refl _) _
            have hf9 : (w8.alloc (.cells #[.slice (some ⟨w3.heap.size, 0, none⟩) 0 0, .int .i64 0, .int .i64 0] 29)).cell? ⟨w8.heap.size, 0, none⟩ = some (.slice (some ⟨w3.heap.size, 0, none⟩) 0 0) := by simp
            have B9 := Lib.hid hb9
            have F9 := Lib.hid hf9
            have LZ : Hid ((ss.drop kk).length = 0) := Lib.hid (by rw [LB.out]; exact hz)
            clear hb9 hf9 hz
            go_wp2_with fail
            refine (names_any w8.heap.size _ 0 0 (ss.drop kk) _ F9.out LZ.out (by omega) (.inl rfl)).mono ?_
            rintro e w10 ⟨v10, rfl, hO10, hb10⟩
            clear LZ F9
          case' inr =>
            have hb9 : Below w8.heap.size w8 (w8.alloc (.cells #[.slice (some ⟨w3.heap.size, kk * 4, none⟩) (n - kk) (n - kk), .int .i64 0, .int .i64 0] 29)) := (Below.refl _ _).alloc (Nat.le_refl _) _
            have hf9 : (w8.alloc (.cells #[.slice (some ⟨w3.heap.size, kk * 4, none⟩) (n - kk) (n - kk), .int .i64 0, .int .i64 0] 29)).cell? ⟨w8.heap.size, 0, none⟩ = some (.slice (some ⟨w3.heap.size, kk * 4, none⟩) (n - kk) (n - kk)) := by simp
            have B9 := Lib.hid hb9
            have F9 := Lib.hid hf9
            clear hb9 hf9
            go_wp2_with fail
            refine (names_any w8.heap.size _ (n - kk) (n - kk) (ss.drop kk) _ F9.out LB.out (by omega) (.inr ⟨_, _, rfl, by have := (C8.out.below B9.out).drop hkk; rw [Nat.zero_add] at this; exact this⟩)).mono ?_
            rintro e w10 ⟨v10, rfl, hO10, hb10⟩
            clear F9 hcut
          all_goals
            obtain ⟨p10, c10, rfl, hR10⟩ := hO10.shape MB.out
            have R10 := Lib.hid hR10
            have B10 : Hid (Below w0.heap.size w0 w10) := Lib.hid ((B8.out.trans (B9.out.mono B8.out.size)).trans (hb10.mono (Nat.le_trans B8.out.size B9.out.size)))
            have R2h := Lib.hid ((R2g.out.below B9.out).below hb10)
            have R6h := Lib.hid ((R6g.out.below B9.out).below hb10)
            have R8h := Lib.hid ((R8.out.below B9.out).below hb10)
            clear hO10 hR10 hb10 C8 B9 B8 R2g R6g R8
            obtain ⟨i0, hi, hz0', hz1', hz2'⟩ := info_parts Try.info9
            go_wp2_with fail
            refine (clone_any p8 m8 c8 _ _ R8h.out (by omega)).mono ?_
            rintro e w11 ⟨v11, rfl, hO11, hb11⟩
            obtain ⟨p11, c11, rfl, -⟩ := hO11.shape M8.out
            have O11 : Hid (Own w11 w10.heap.size (.slice p11 m8 c11) (Dd.gath (Dd.dd (ss.take kk)) (Dd.dd (ss.drop kk)) 0)) := Lib.hid (by rw [Dd.gath_zero]; exact hO11)
            have B11 := hb11
            clear hO11 hb11
            go_wp2
            go_loopw [15, 16] (fun vn vi wq => ∃ (i : Nat) (p' : Option Addr) (mm cp : Nat), vn = .slice p' mm cp ∧ vi = .int .i64 i ∧ i ≤ mb ∧ mm ≤ m8 + i ∧ Hid (mm = (Dd.gath (Dd.dd (ss.take kk)) (Dd.dd (ss.drop kk)) i).length) ∧ Hid (Own wq w10.heap.size (.slice p' mm cp) (Dd.gath (Dd.dd (ss.take kk)) (Dd.dd (ss.drop kk)) i)) ∧ Below w10.heap.size w10 wq) (fun _ vi _ => mb - (intOf vi).toNat)
            case atStart => exact ⟨0, p11, m8, c11, rfl, rfl, Nat.zero_le _, Nat.le_refl _, by rw [Dd.gath_zero]; exact M8.out.symm, O11, B11⟩
            case round =>
              obtain ⟨i, p', mm, cp, rfl, rfl, hi1, hmm, HM, HO, hbr⟩ := hrel
              clear O11 B11
              by_cases him : i < mb
              · first
                | (exfalso; omega)
                | (
                    obtain ⟨b, off, rfl, hc⟩ := (R10.out.below hbr).at_ him
                    have hck := hc i him
                    have hlen : i < (Dd.dd (ss.drop kk)).length := by rw [MB.out]; exact him
                    have hsz := hbr.size
                    have hhit := Dd.gath_hit (Dd.dd (ss.take kk)) (Dd.dd (ss.drop kk)) i hlen
                    have hmiss := Dd.gath_miss (Dd.dd (ss.take kk)) (Dd.dd (ss.drop kk)) i hlen
                    generalize (Dd.dd (ss.drop kk)).getD i ByteArray.empty = y at hck hhit hmiss
                    have HH := Lib.hid hhit
                    have HS := Lib.hid hmiss
                    have S8 := Lib.hid (R8h.out.below hbr)
                    clear hc hlen hhit hmiss
                    go_wp2_with fail
                    refine (indexOf_any p8 m8 c8 _ y _ S8.out (by omega)).mono ?_
                    rintro e wi ⟨ix, rfl, hix, hwi⟩
                    subst hwi
                    have hib := isIdx_lo hix
                    have hmem := isIdx_mem hix
                    clear hix
                    obtain ⟨hib0, hib1⟩ := hib
                    rw [M8.out] at hib1
                    by_cases hy : y ∈ Dd.dd (ss.take kk)
                    · have hpos := hmem.2 hy
                      have hnx := HH.out hy
                      have HN := Lib.hid hnx
                      have HO2 : Hid (Own wi w10.heap.size (.slice p' mm cp) (Dd.gath (Dd.dd (ss.take kk)) (Dd.dd (ss.drop kk)) (i + 1))) := Lib.hid (by rw [hnx]; exact HO.out)
                      clear hmem hnx hy HH HS S8
                      go_wp2
                      go_roundw
                      case rel => exact ⟨i + 1, p', mm, cp, rfl, by go_num, by omega, by omega, by rw [HN.out]; exact HM, HO2, hbr⟩
                      case measure => simp [intOf]; omega
                    · have hneg : ix < 0 := Int.not_le.1 (fun h => hy (hmem.1 h))
                      have hnx := HS.out hy
                      have HN := Lib.hid hnx
                      have HO2 := Lib.hid (HO.out.alloc (.cells #[.string y] 9))
                      clear hmem hnx hy HH HS S8
                      go_wp2_with (at_builtin; refine wpList_append_own _ rfl _ _ 22 rfl w10.heap.size 9 i0 (.string ⟨#[]⟩) 1 16 Try.underlying22 hi hz0' hz1' hz2' rfl (by decide) _ _ _ rfl HO2.out ⟨wi.heap.size, 0, none⟩ 1 1 [.string y] rfl rfl ?c1 ?c2 ?c3 ?c4 ?c5 ?_)
                      case c1 =>
                        intro j u hj
                        match j, hj with
                        | 0, hj => simp at hj; subst hj; simp [Addr.add]
                      case c2 => intro u hu; simp at hu; subst hu; rfl
                      case c3 => have := HM.out; unfold maxLen; omega
                      case c4 => have := HM.out; omega
                      case c5 => simp; omega
                      intro v' w12 hown12 hgrow12 _
                      have HO3 : Hid (Own w12 w10.heap.size v' (Dd.gath (Dd.dd (ss.take kk)) (Dd.dd (ss.drop kk)) (i + 1))) := Lib.hid (by
                        unfold Own
                        rw [HN.out]
                        have e1 : strCells (Dd.gath (Dd.dd (ss.take kk)) (Dd.dd (ss.drop kk)) i ++ [y]) = strCells (Dd.gath (Dd.dd (ss.take kk)) (Dd.dd (ss.drop kk)) i) ++ [Value.string y] := by simp [strCells]
                        rw [e1, List.length_append, List.length_singleton]
                        exact hown12)
                      have HB3 : Hid (Below w10.heap.size w10 w12) := Lib.hid ((hbr.alloc hsz _).grown hgrow12 (by simp; omega) (fun t ht => (HO2.out.lt t ht).1))
                      obtain ⟨p3, cp3, hv3, -⟩ := HO3.out.row
                      have hlen : (Dd.gath (Dd.dd (ss.take kk)) (Dd.dd (ss.drop kk)) (i + 1)).length = mm + 1 := by rw [HN.out, List.length_append, List.length_singleton, ← HM.out]
                      rw [hlen] at hv3
                      have HLn := Lib.hid hlen
                      rw [hv3] at HO3 ⊢
                      clear hown12 hgrow12 HO2 hv3 hlen
                      go_wp2
                      go_roundw
                      case rel => exact ⟨i + 1, p3, mm + 1, cp3, rfl, by go_num, by omega, by omega, HLn.out.symm, HO3, HB3.out⟩
                      case measure => simp [intOf]; omega)
              · have hie : i = mb := by omega
                have hg : Dd.gath (Dd.dd (ss.take kk)) (Dd.dd (ss.drop kk)) i = Dd.dd ss := by rw [hie, Dd.gath_all _ _ MB.out, ← Dd.dd_cut]
                have hO := HO.out
                rw [hg] at hO
                have hm6e : mm = m6 := by have := HM.out; rw [hg, M6.out] at this; exact this
                subst hm6e
                have SW := Lib.hid hO.srow.2
                have S6 := Lib.hid (R6h.out.below hbr)
                have S2 := Lib.hid (R2h.out.below hbr)
                have BR := Lib.hid hbr
                clear hO hg hie HO HM hbr
                go_wp2_with fail
                refine (same_any p6 p' _ c6 cp (Dd.dd ss) _ S6.out SW.out (by omega)).mono ?_
                rintro e w13 ⟨rfl, hb13⟩
                have S2b := Lib.hid (S2.out.below hb13)
                have B13 := Lib.hid hb13
                clear hb13 S2 S6 SW
                go_wp2_with fail
                have hc := count_any p2 _ c2 ss w13 S2b.out hn2
                rw [M6.out] at hc
                refine hc.mono ?_
                rintro e w14 ⟨rfl, hb14⟩
                clear hc
                go_wp2
                go_ret
                exact LawPost.mk (((B10.out.trans (BR.out.mono B10.out.size)).trans (B13.out.mono (Nat.le_trans B10.out.size BR.out.size))).trans (hb14.mono (Nat.le_trans (Nat.le_trans B10.out.size BR.out.size) B13.out.size)))

end Go.Proofs.Qxb6618756a
