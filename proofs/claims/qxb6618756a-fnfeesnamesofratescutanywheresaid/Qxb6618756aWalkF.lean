/-
  FnFeesNamesAreTheDistinctNamesInFirstOrder.
-/
import Derived.Test.Qxb6618756aWalkE
namespace Go.Proofs.Qxb6618756a
open Go.RowKit

theorem Own.shape {w : World} {base n : Nat} {v : Value} {ss : List ByteArray} (h : Own w base v ss) (hn : ss.length = n) : ∃ p cap, v = .slice p n cap ∧ SRow w p n ss := by
  subst hn; exact h.row

theorem isIdx_at {ss : List ByteArray} {x : ByteArray} {i : Int} (h : IsIdx ss x i) {t : Nat} (ht : t < ss.length) (hx : ss.getD t ByteArray.empty = x) (hno : ∀ j, j < t → ss.getD j ByteArray.empty ≠ x) : i = t := by
  rcases h with ⟨rfl, hn⟩ | ⟨k, rfl, hk, hxk, hnk⟩
  · exact absurd hx (hn t ht)
  · rcases Nat.lt_trichotomy k t with h1 | h1 | h1
    · exact absurd hxk (hno k h1)
    · rw [h1]
    · exact absurd hx (hnk t h1)

/-- The law's answer, and that nothing that was there has turned. -/
def LawPost (w : World) (e : Ending) (w' : World) : Prop := e = .returned (.bool true) ∧ Below w.heap.size w w'
theorem LawPost.mk {w w' : World} (h : Below w.heap.size w w') : LawPost w (.returned (.bool true)) w' := ⟨rfl, h⟩

set_option maxHeartbeats 2000000 in
set_option maxRecDepth 100000 in
theorem distinct_walk (p q : Option Addr) (n c m d : Nat) (ss ts : List ByteArray) (day line : Int) (w : World) (h : SRow w p n ss) (h' : SRow w q m ts)
    (hn : n ≤ 9223372036854775807) (hm : m ≤ 9223372036854775807) (hs : Small 9223372036854775807 ss) (ht : Small 9223372036854775807 ts) :
    Calls Try.prog 3 #[.slice p n c, .slice q m d, .int .i64 day, .int .i64 line] w fun e w' => LawPost w e w' := by
  have H := Lib.hid h
  have H' := Lib.hid h'
  have HS := Lib.hid hs
  have HT := Lib.hid ht
  clear h h' hs ht
  go_enter Try.func3, Try.ntmps3
  go_wp2_with fail
  refine (bytesA_any p q n c m d ss ts day line _ H.out H'.out hn hm HS.out HT.out).mono ?_
  rintro e w0 ⟨rfl, rfl | ⟨rfl, hn1, hm1, hs1, ht1⟩⟩
  · go_wp2
    go_ret
    exact LawPost.mk (Below.refl _ _)
  have S1 := Lib.hid hs1
  have T1 := Lib.hid ht1
  clear HS HT hs1 ht1
  by_cases hn2 : n ≤ 4096
  case neg =>
    go_wp2
    go_ret
    exact LawPost.mk (Below.refl _ _)
  by_cases hm2 : m ≤ 4096
  case neg =>
    go_wp2
    go_ret
    exact LawPost.mk (Below.refl _ _)
  have hd1 : decide ((4096 : Int) < n) = false := by simp; omega
  have hd2 : decide ((4096 : Int) < m) = false := by simp; omega
  go_wp2
  go_loop [9, 10] (fun vz vi => ∃ (k : Nat) (z : Int), vz = .int .i64 z ∧ vi = .int .i64 k ∧ 0 ≤ z ∧ z ≤ 1048576 ∧ k ≤ n) (fun _ vi => n - (intOf vi).toNat)
  case atStart => exact ⟨0, 0, rfl, rfl, by omega, by omega, Nat.zero_le _⟩
  case round =>
    obtain ⟨k, z, rfl, rfl, hz0, hz1, hk⟩ := hrel
    by_cases hkn : k < n
    · obtain ⟨b, off, rfl, hc⟩ := H.out.at_ hkn
      have hck := hc k hkn
      have hsz := S1.out k (by rw [H.out.1]; exact hkn)
      generalize ss.getD k ByteArray.empty = y at hck hsz
      clear hc
      by_cases h2 : z + (16 + (y.size : Int)) ≤ 1048576
      · go_wp2
        go_round
        case rel => exact ⟨k + 1, z + (16 + (y.size : Int)), by first | rfl | go_num, by go_num, by omega, by omega, by omega⟩
        case measure => simp [intOf]; omega
      · go_wp2
        go_ret
        exact LawPost.mk (Below.refl _ _)
    · go_wp2
      go_loop [9, 11] (fun vz vi => ∃ (k : Nat) (z : Int), vz = .int .i64 z ∧ vi = .int .i64 k ∧ 0 ≤ z ∧ z ≤ 1048576 ∧ k ≤ m) (fun _ vi => m - (intOf vi).toNat)
      case atStart => exact ⟨0, z, rfl, rfl, by omega, by omega, Nat.zero_le _⟩
      case round =>
        obtain ⟨k, z, rfl, rfl, hz0, hz1, hk⟩ := hrel
        by_cases hkm : k < m
        · obtain ⟨b, off, rfl, hc⟩ := H'.out.at_ hkm
          have hck := hc k hkm
          have hsz := T1.out k (by rw [H'.out.1]; exact hkm)
          generalize ts.getD k ByteArray.empty = y at hck hsz
          clear hc
          by_cases h2 : z + (16 + (y.size : Int)) ≤ 1048576
          · go_wp2
            go_round
            case rel => exact ⟨k + 1, z + (16 + (y.size : Int)), by first | rfl | go_num, by go_num, by omega, by omega, by omega⟩
            case measure => simp [intOf]; omega
          · go_wp2
            go_ret
            exact LawPost.mk (Below.refl _ _)
        · clear S1 T1
          go_wp2_with fail
          refine (clone_any p n c ss _ H.out hn1).mono ?_
          rintro e w1 ⟨v0, rfl, hO0, hb1⟩
          obtain ⟨p0, c0, rfl, hR0⟩ := hO0.shape H.out.1
          have R0 := Lib.hid hR0
          have B1 := Lib.hid hb1
          have T1 := Lib.hid (H'.out.below hb1)
          clear hO0 hR0 hb1
          go_wp2_with fail
          refine (clone_any q m d ts _ T1.out hm1).mono ?_
          rintro e w2 ⟨v1, rfl, hO1, hb2⟩
          obtain ⟨p1, c1, rfl, hR1⟩ := hO1.shape H'.out.1
          have R1 := Lib.hid hR1
          have B2 : Hid (Below w0.heap.size w0 w2) := Lib.hid (B1.out.trans (hb2.mono B1.out.size))
          have R0b := Lib.hid (R0.out.below hb2)
          clear hO1 hR1 hb2 T1 R0 B1
          go_wp2_with fail
          refine (clone_any p0 n c0 ss _ R0b.out hn1).mono ?_
          rintro e w3 ⟨v2, rfl, hO2, hb3⟩
          obtain ⟨p2, c2, rfl, hR2⟩ := hO2.shape H.out.1
          have R2 := Lib.hid hR2
          have B3 : Hid (Below w0.heap.size w0 w3) := Lib.hid (B2.out.trans (hb3.mono B2.out.size))
          have R0c := Lib.hid (R0b.out.below hb3)
          have R1c := Lib.hid (R1.out.below hb3)
          clear hO2 hR2 hb3 R0b R1 B2
          go_wp2_with fail
          refine (rates_any p0 p1 n c0 m c1 ss ts _ R0c.out R1c.out hn2).mono ?_
          rintro e w4 ⟨rfl, hC, hb4⟩
          have C4 := Lib.hid hC
          have B4 : Hid (Below w0.heap.size w0 w4) := Lib.hid (B3.out.trans (hb4.mono B3.out.size))
          have R2d := Lib.hid (R2.out.below hb4)
          clear hC hb4 R0c R1c R2 B3
          have hb5 : Below w4.heap.size w4 (w4.alloc (.cells #[.slice (some ⟨w3.heap.size, 0, none⟩) n n, .int .i64 day, .int .i64 line] 29)) := (Below.refl _ _).alloc (Nat.le_refl _) _
          have hf5 : (w4.alloc (.cells #[.slice (some ⟨w3.heap.size, 0, none⟩) n n, .int .i64 day, .int .i64 line] 29)).cell? ⟨w4.heap.size, 0, none⟩ = some (.slice (some ⟨w3.heap.size, 0, none⟩) n n) := by simp
          have B5 := Lib.hid hb5
          have F5 := Lib.hid hf5
          clear hb5 hf5
          go_wp2_with fail
          refine (names_any w4.heap.size _ n n ss _ F5.out H.out.1 hn2 (.inr ⟨_, _, rfl, C4.out.below B5.out⟩)).mono ?_
          rintro e w6 ⟨v6, rfl, hO6, hb6⟩
          obtain ⟨m6, hm6⟩ : ∃ m6, (Dd.dd ss).length = m6 := ⟨_, rfl⟩
          have hm6n : m6 ≤ n := by rw [← hm6, ← Dd.ddTo_all, ← H.out.1]; exact Dd.ddTo_len ss _ (Nat.le_refl _)
          obtain ⟨p6, c6, rfl, hR6⟩ := hO6.shape hm6
          have R6 := Lib.hid hR6
          have M6 := Lib.hid hm6
          have B6 : Hid (Below w0.heap.size w0 w6) := Lib.hid ((B4.out.trans (B5.out.mono B4.out.size)).trans (hb6.mono (Nat.le_trans B4.out.size B5.out.size)))
          have R2e := Lib.hid ((R2d.out.below B5.out).below hb6)
          clear hO6 hm6 hR6 hb6 C4 F5 B5 B4 R2d
          go_wp2_with fail
          refine (noDup_any p6 m6 c6 (Dd.dd ss) _ R6.out (by omega) (fun i j hij hj => Dd.dd_ne ss i j hij (by rw [M6.out]; exact hj))).mono ?_
          rintro e w7 ⟨rfl, hb7⟩
          have R6b := Lib.hid (R6.out.below hb7)
          have R2f := Lib.hid (R2e.out.below hb7)
          have B7 : Hid (Below w0.heap.size w0 w7) := Lib.hid (B6.out.trans (hb7.mono B6.out.size))
          clear hb7 R6 R2e B6
          obtain ⟨f, hf, hr⟩ := Dd.places ss ss.length (Nat.le_refl _)
          rw [Dd.ddTo_all, M6.out] at hf hr
          have HF := Lib.hid hf
          have HR := Lib.hid hr
          clear hf hr
          go_wp2
          go_loop [15] (fun vi => ∃ (k : Nat), vi = .int .i64 k ∧ k ≤ n) (fun vi => n - (intOf vi).toNat)
          case atStart => exact ⟨0, rfl, Nat.zero_le _⟩
          case round =>
            obtain ⟨k, rfl, hk⟩ := hrel
            by_cases hkn : k < n
            · obtain ⟨b, off, rfl, hc⟩ := R2f.out.at_ hkn
              have hck := hc k hkn
              have hmem : ss.getD k ByteArray.empty ∈ Dd.dd ss := by rw [← Dd.ddTo_all]; exact Dd.mem_ddTo ss _ (Nat.le_refl _) k (by rw [H.out.1]; exact hkn)
              generalize ss.getD k ByteArray.empty = y at hck hmem
              have HM := Lib.hid hmem
              clear hc hmem
              go_wp2_with fail
              refine (indexOf_any p6 m6 c6 (Dd.dd ss) y _ R6b.out (by omega)).mono ?_
              rintro e w8 ⟨i, rfl, hi, rfl⟩
              have hi0 := (isIdx_mem hi).2 HM.out
              have hib := (isIdx_lo hi).2
              rw [M6.out] at hib
              clear hi HM
              go_wp2
              go_round
              case rel => exact ⟨k + 1, by go_num, by omega⟩
              case measure => simp [intOf]; omega
            · go_wp2
              go_loop [16, 17] (fun vp vi => ∃ (k : Nat) (pr : Int), vp = .int .i64 pr ∧ vi = .int .i64 k ∧ k ≤ m6 ∧ -1 ≤ pr ∧ pr ≤ n ∧ Hid (∀ t, t < k → pr = -1 → False) ∧ Hid (k = 0 → pr = -1) ∧ Hid (∀ t, t + 1 = k → pr = f t)) (fun _ vi => m6 - (intOf vi).toNat)
              case atStart => exact ⟨0, -1, rfl, rfl, Nat.zero_le _, by omega, by omega, (fun t ht => by omega), (fun _ => rfl), (fun t ht => by omega)⟩
              case round =>
                obtain ⟨k, pr, rfl, rfl, hk, hp0, hp1, HA, HZ, HP⟩ := hrel
                by_cases hk6 : k < m6
                · obtain ⟨b, off, rfl, hc⟩ := R6b.out.at_ hk6
                  have hck := hc k hk6
                  obtain ⟨x, hx⟩ : ∃ x, (Dd.dd ss).getD k ByteArray.empty = x := ⟨_, rfl⟩
                  rw [hx] at hck
                  have HX := Lib.hid hx
                  clear hc hx
                  go_wp2_with fail
                  refine (indexOf_any p2 n c2 ss x _ R2f.out (by omega)).mono ?_
                  rintro e w8 ⟨i, rfl, hi, rfl⟩
                  have hfk := HF.out k hk6
                  rw [HX.out] at hfk
                  have hik : i = (f k : Int) := isIdx_at hi hfk.1 hfk.2.1 hfk.2.2
                  have hfn : f k < n := by rw [← H.out.1]; exact hfk.1
                  have hpf : pr < i := by
                    by_cases hk0 : k = 0
                    · rw [HZ.out hk0, hik]; omega
                    · have h1 := HP.out (k - 1) (by omega)
                      have h2 := HR.out (k - 1) k (by omega) hk6
                      rw [h1, hik]; omega
                  have hi1 : i ≤ n := by omega
                  have HK := Lib.hid hik
                  clear hi hfk hik hfn
                  go_wp2
                  go_round
                  case rel => exact ⟨k + 1, i, rfl, by go_num, by omega, by omega, by omega, (fun t ht e => by omega), (fun e => by omega), (fun t ht => by rw [HK.out, show t = k by omega])⟩
                  case measure => simp [intOf]; omega
                · go_wp2
                  go_ret
                  exact LawPost.mk B7.out

end Go.Proofs.Qxb6618756a
