/-
  FnSliceIsTheRunsBytes: the walk behind the copy of the ends.
-/
import Derived.Test.Qxb6619618aWalkD
namespace Go.Proofs.Qxb6619618a
open Go.RowKit

theorem runLen_pre (q : Option Addr) (m d tt : Nat) (ps : List Pc) (es : List Int) (w : World) (h : EV w q m es) (hw : WF ps es) (hp : ps.length = m) (hm : m ≤ 1048576) (ht : pre ps m = tt) :
    Calls Try.prog 9 #[.slice q m d] w fun e w' => e = .returned (.int .i64 tt) ∧ w' = w := by
  subst ht
  by_cases h0 : m = 0
  · subst h0
    exact runLen_zero q d w
  · have := runLen_any q m d es w h hm (by omega)
    rw [runLen_wf hw hp (by omega)] at this
    exact this

set_option maxHeartbeats 4000000 in
set_option maxRecDepth 100000 in
theorem law_walk (p q : Option Addr) (n c m d : Nat) (ps : List Pc) (es : List Int) (x y : Int) (w : World) (h : PV w p n ps) (h' : IRow w q m d es) (hn : n ≤ 9223372036854775807) (hm : m ≤ 9223372036854775807) :
    Calls Try.prog 3 #[.slice p n c, .slice q m d, .int .i64 x, .int .i64 y] w fun e w' => LawPost w e w' := by
  have H := Lib.hid h
  have H' := Lib.hid h'
  clear h h'
  go_enter Try.func3, Try.ntmps3
  go_wp2_with fail
  refine (bytes_any p q n c m d ps x y _ H.out hn hm).mono ?_
  rintro e w0 ⟨rfl, rfl | ⟨rfl, hn1, hm1, hs1⟩⟩
  · go_wp2
    go_ret
    exact LawPost.mk (Below.refl _ _)
  have S1 := Lib.hid hs1
  clear hs1
  by_cases hn2 : n ≤ 65536
  case neg =>
    go_wp2
    go_ret
    exact LawPost.mk (Below.refl _ _)
  by_cases hm2 : m ≤ 65536
  case neg =>
    go_wp2
    go_ret
    exact LawPost.mk (Below.refl _ _)
  rcases q with _ | ad
  case' none =>
    have hes : EV w0 none m es := ⟨H'.out.1, .inl (H'.out.2.2.1 rfl).1⟩
    have E1 := Lib.hid hes
    have P1 := H
    have BW : Hid (Below w0.heap.size w0 w0) := Lib.hid (Below.refl _ _)
    clear hes H H'
  case' some =>
    obtain ⟨M, W1, hmk, hcp, hb1, hev⟩ := copied w0 ad m d es H'.out hm1
    have E1 := Lib.hid hev
    have P1 := Lib.hid (H.out.below hb1)
    have BW := Lib.hid hb1
    clear hb1 hev H H'
  all_goals
    by_cases hsz : (n : Int) * 24 + (m : Int) * 8 ≤ 1048576
    case neg =>
      go_wp2
      go_ret
      exact LawPost.mk BW.out
    go_wp2
    try clear hmk hcp
    go_loop [10, 11] (fun vz vk => ∃ (k t : Nat), vz = .int .i64 ((n : Int) * 24 + (m : Int) * 8 + t) ∧ vk = .int .i64 k ∧ k ≤ n ∧ t ≤ 1048576 ∧ Hid (t = pre ps k)) (fun _ vk => n - (intOf vk).toNat)
    case atStart => exact ⟨0, 0, by first | rfl | go_num, rfl, Nat.zero_le _, by omega, rfl⟩
    case round =>
      obtain ⟨k, t, rfl, rfl, hk, ht, HT⟩ := hrel
      by_cases hkn : k < n
      · obtain ⟨b, off, rfl, hc⟩ := P1.out.at_ hkn
        obtain ⟨hck, hok⟩ := hc k hkn
        have hsh := S1.out k (by rw [P1.out.1]; exact hkn)
        have hpre : pre ps (k + 1) = t + (ps.getD k pc0).n := by rw [HT.out]; rfl
        unfold Pc.val at hck
        generalize (ps.getD k pc0).p = sp at hck
        generalize (ps.getD k pc0).cap = sc at hck
        generalize (ps.getD k pc0).n = l at hck hsh hpre
        have HP := Lib.hid hpre
        clear hc hok hpre
        by_cases h2 : (n : Int) * 24 + (m : Int) * 8 + t + l ≤ 1048576
        · go_wp2
          go_round
          case rel => exact ⟨k + 1, t + l, by first | rfl | go_num, by go_num, by omega, by omega, HP.out.symm⟩
          case measure => simp [intOf]; omega
        · go_wp2
          go_ret
          exact LawPost.mk BW.out
      · have hke : k = n := by omega
        have htot : pre ps n ≤ 1048576 := by rw [← hke, ← HT.out]; exact ht
        have TOT := Lib.hid htot
        clear hke htot HT S1
        go_wp2_with fail
        refine (wf_any p _ n c m _ ps es _ P1.out E1.out hn1 hm1 TOT.out).mono ?_
        rintro e w3 ⟨hw3, rfl | ⟨rfl, hwf⟩⟩
        · have hw3' := hw3.symm
          subst hw3'
          go_wp2
          go_ret
          exact LawPost.mk BW.out
        have hw3' := hw3.symm
        subst hw3'
        clear hw3
        have HWF := Lib.hid hwf
        have hmn : m = n := by have := hwf.1; rw [E1.out.1, P1.out.1] at this; exact this
        clear hwf
        subst hmn
        obtain ⟨tt, htt⟩ : ∃ tt, pre ps m = tt := ⟨_, rfl⟩
        have htt2 : tt ≤ 1048576 := by rw [← htt]; exact TOT.out
        have HTT := Lib.hid htt
        clear htt
        by_cases hx0 : x < 0
        · go_wp2
          go_ret
          exact LawPost.mk BW.out
        by_cases hxy : y < x
        · go_wp2
          go_ret
          exact LawPost.mk BW.out
        go_wp2_with fail
        refine (runLen_pre _ m _ tt ps es _ E1.out HWF.out P1.out.1 hm1 HTT.out).mono ?_
        rintro e w4 ⟨rfl, hw4⟩
        have hw4' := hw4.symm
        subst hw4'
        clear hw4
        by_cases hyt : (tt : Int) < y
        · go_wp2
          go_ret
          exact LawPost.mk BW.out
        obtain ⟨a, rfl⟩ : ∃ a : Nat, x = a := ⟨x.toNat, by omega⟩
        obtain ⟨z, rfl⟩ : ∃ z : Nat, y = z := ⟨y.toNat, by omega⟩
        have haz : a ≤ z := by omega
        have hzt : z ≤ tt := by omega
        clear hx0 hxy hyt
        go_wp2_with fail
        refine (zzPieces_any p _ m c m _ _).mono ?_
        rintro e w5 ⟨rfl, hb5⟩
        have P5 := Lib.hid (P1.out.below hb5)
        have E5 := Lib.hid (E1.out.below hb5)
        have B5 : Hid (Below w0.heap.size w0 w5) := Lib.hid (BW.out.trans (hb5.mono BW.out.size))
        clear hb5 P1 E1 BW
        go_wp2_with fail
        refine (slice_any p _ m c _ a z ps es _ P5.out E5.out HWF.out hm1 (by rw [HTT.out]; exact hzt) haz TOT.out).mono ?_
        rintro e w6 ⟨gb, go, gc, rfl, hrd, hb6⟩
        have P6 := Lib.hid (P5.out.below hb6)
        have B6 : Hid (Below w0.heap.size w0 w6) := Lib.hid (B5.out.trans (hb6.mono B5.out.size))
        have RD := Lib.hid hrd
        clear hrd hb6 P5 E5 B5
        have heq := fun (W : World) (a : Option Addr) (n c n' c' : Nat) => Lib.run_eql_slice_nil (P := Try.prog) W 25 5 a n c n' c' Try.underlying25
        have hne : ((((z - a : Nat)) : Int) != (z : Int) - a) = false := by simp; omega
        have hne2 : ((z : Int) - a != (z : Int) - a) = false := by simp
        go_wp2
        clear heq hne hne2
        go_loopw [13, 14] (fun vp vk wr => ∃ (k t : Nat), vp = .int .i64 t ∧ vk = .int .i64 k ∧ k ≤ m ∧ t ≤ tt ∧ Hid (t = pre ps k) ∧ Below w6.heap.size w6 wr) (fun _ vk _ => m - (intOf vk).toNat)
        case atStart => exact ⟨0, 0, rfl, rfl, Nat.zero_le _, Nat.zero_le _, rfl, Below.refl _ _⟩
        case round =>
          obtain ⟨k, t, rfl, rfl, hk, ht1, HT, hbr⟩ := hrel
          by_cases hkm : k < m
          · obtain ⟨b, off, hpb, hc⟩ := P6.out.at_ hkm
            subst hpb
            obtain ⟨hck, hok⟩ := hc k hkm
            have hpre : pre ps (k + 1) = t + (ps.getD k pc0).n := by rw [HT.out]; rfl
            have hpl := pre_mono ps (show k + 1 ≤ m by omega)
            rw [HTT.out, hpre] at hpl
            unfold Pc.val at hck
            obtain ⟨l, hl⟩ : ∃ l, (ps.getD k pc0).n = l := ⟨_, rfl⟩
            rw [hl] at hck hpre hpl
            have hcm : (ps.getD k pc0).cap ≤ 9223372036854775807 := hok.2.2.1
            have hlc : l ≤ (ps.getD k pc0).cap := by rw [← hl]; exact hok.2.1
            have HL := Lib.hid hl
            have HP := Lib.hid hpre
            have HOK := Lib.hid hok
            obtain ⟨sp, hsp⟩ : ∃ sp, (ps.getD k pc0).p = sp := ⟨_, rfl⟩
            rw [hsp] at hck
            have HSP := Lib.hid hsp
            generalize (ps.getD k pc0).cap = sc at hck hcm hlc
            have HCK := Lib.hid hck
            clear hc hok hpre hl hsp hck
            go_wp2
            go_loopw [13, 15] (fun vp vb wq => ∃ (bb : Nat), vp = .int .i64 ((t : Int) + bb) ∧ vb = .int .i64 bb ∧ bb ≤ l ∧ Below w6.heap.size w6 wq) (fun _ vb _ => l - (intOf vb).toNat)
            case atStart => exact ⟨0, by first | rfl | go_num, rfl, Nat.zero_le _, hbr⟩
            case round =>
              obtain ⟨bb, rfl, rfl, hbb, hbq⟩ := hrel
              have c0 := (hbq.cell (p := ⟨b, off + k, none⟩) (Lib.lt_of_cell HCK.out)).trans HCK.out
              by_cases hbl : bb < l
              · obtain ⟨pb, po, hpp, hcc⟩ : ∃ pb po, sp = some ⟨pb, po, none⟩ ∧ ∀ t, t < l → w6.cell? ⟨pb, po + t, none⟩ = some (.int .u8 ((ps.getD k pc0).bs.getD t 0).toNat) := by
                  rcases HOK.out.2.2.2 with h0 | ⟨pb, po, h1, h2⟩
                  · rw [HL.out] at h0; omega
                  · exact ⟨pb, po, by rw [← HSP.out]; exact h1, by rw [HL.out] at h2; exact h2⟩
                subst hpp
                have c1 := (hbq.cell (p := ⟨pb, po + bb, none⟩) (Lib.lt_of_cell (hcc bb hbl))).trans (hcc bb hbl)
                clear hcc
                by_cases hlo : t + bb < a
                · generalize (ps.getD k pc0).bs.getD bb 0 = v at c1
                  have g1 : decide ((a : Int) ≤ (t : Int) + bb) = false := by simp; omega
                  go_wp2
                  go_quiet (fail)
                  go_wp2
                  go_roundw
                  case rel => exact ⟨bb + 1, by go_num, by go_num, by omega, below_drewN hbq _⟩
                  case measure => simp [intOf]; omega
                · by_cases hhi : z ≤ t + bb
                  · generalize (ps.getD k pc0).bs.getD bb 0 = v at c1
                    have g1 : (a : Int) ≤ (t : Int) + bb := by omega
                    have g2 : decide ((t : Int) + bb < (z : Int)) = false := by simp; omega
                    go_wp2
                    go_quiet (fail)
                    go_wp2
                    go_roundw
                    case rel => exact ⟨bb + 1, by go_num, by go_num, by omega, below_drewN hbq _⟩
                    case measure => simp [intOf]; omega
                  · obtain ⟨d0, hd0⟩ : ∃ d0, t + bb = a + d0 := ⟨t + bb - a, by omega⟩
                    have hg := RD.out k bb (by rw [P6.out.1]; exact hkm) (by rw [HL.out]; exact hbl) (by rw [← HT.out]; omega) (by rw [← HT.out]; omega)
                    rw [← HT.out, hd0, Nat.add_sub_cancel_left] at hg
                    have c2 := (hbq.cell (p := ⟨gb, go + d0, none⟩) (Lib.lt_of_cell hg)).trans hg
                    clear hg
                    generalize (ps.getD k pc0).bs.getD bb 0 = v at c1 c2
                    have g1 : (a : Int) ≤ (t : Int) + bb := by omega
                    have g2 : (t : Int) + bb < (z : Int) := by omega
                    have g3 : (t : Int) + bb - a = (d0 : Int) := by omega
                    have g4 : (d0 : Int) < ((z - a : Nat) : Int) := by omega
                    have g5 : ((v.toNat : Int) != (v.toNat : Int)) = false := by simp
                    have HD0 := Lib.hid hd0
                    clear hd0
                    go_wp2
                    go_quiet (fail)
                    go_wp2
                    go_roundw
                    case rel => exact ⟨bb + 1, by go_num, by go_num, by omega, below_drewN hbq _⟩
                    case measure => simp [intOf]; omega
              · have HTN : Hid (t + bb = pre ps (k + 1)) := Lib.hid (by rw [HP.out]; omega)
                go_wp2
                go_roundw
                case rel => exact ⟨k + 1, t + bb, by go_num, by go_num, by omega, by omega, HTN, hbq⟩
                case measure => simp [intOf]; omega
          · go_wp2
            go_ret
            exact LawPost.mk (B6.out.trans (hbr.mono B6.out.size))

end Go.Proofs.Qxb6619618a
