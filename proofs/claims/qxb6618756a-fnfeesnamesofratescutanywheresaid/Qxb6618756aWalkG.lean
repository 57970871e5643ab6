/-
  zzDistinctCount.
-/
import Derived.Test.Qxb6618756aWalkF
import Derived.Test.Qxb6618756aSort
namespace Go.Proofs.Qxb6618756a
open Go.RowKit

/-- The slice at g holds just these strings, and may be written. -/
def Holds (w : World) (base g n cp : Nat) (L : List ByteArray) : Prop := L.length = n ∧ w.ownsRow base 9 1 (.slice (some ⟨g, 0, none⟩) n cp) n (strCells L)

theorem Holds.cell {w : World} {base g n cp : Nat} {L : List ByteArray} (h : Holds w base g n cp L) (j : Nat) (hj : j < n) : w.cell? ⟨g, j, none⟩ = some (.string (L.getD j ByteArray.empty)) := by
  rw [h.2.cellAt j (by omega), strCells_get L j (by rw [h.1]; exact hj)]
theorem Holds.free {w : World} {base g n cp : Nat} {L : List ByteArray} (h : Holds w base g n cp L) (j : Nat) : w.frozen? ⟨g, j, none⟩ = false := h.2.frozenAt j
theorem Holds.lt {w : World} {base g n cp : Nat} {L : List ByteArray} (h : Holds w base g n cp L) : base ≤ g := (World.ownsRow.lt h.2 g rfl).1
theorem Holds.set {w : World} {base g n cp : Nat} {L : List ByteArray} (h : Holds w base g n cp L) (j : Nat) (y : ByteArray) : Holds (w.setCell ⟨g, j, none⟩ (.string y)) base g n cp (L.set j y) := by
  refine ⟨by rw [List.length_set]; exact h.1, ?_⟩
  have e : strCells (L.set j y) = (strCells L).set j (.string y) := by simp [strCells, List.map_set]
  rw [e]; exact (h.2.stored j _).1
theorem Holds.drewN {w : World} {base g n cp : Nat} {L : List ByteArray} (h : Holds w base g n cp L) (t : Nat) : Holds (w.drewN t) base g n cp L := h

theorem set_mid (A : List ByteArray) (z y : ByteArray) (T : List ByteArray) {j : Nat} (hj : A.length = j) : (A ++ z :: T).set j y = A ++ y :: T := by
  subst hj
  rw [List.set_append_right _ _ (Nat.le_refl _), Nat.sub_self, List.set_cons_zero]
theorem getD_mid (A : List ByteArray) (z : ByteArray) (T : List ByteArray) {j : Nat} (hj : A.length = j) : (A ++ z :: T).getD j ByteArray.empty = z := by
  subst hj; simp [List.getD]
theorem split_last (A : List ByteArray) {j : Nat} (hj : A.length = j) (h0 : 0 < j) : ∃ A' y, A = A' ++ [y] ∧ A'.length = j - 1 := by
  have hne : A ≠ [] := by intro e; subst e; simp at hj; omega
  exact ⟨A.dropLast, A.getLast hne, (List.dropLast_concat_getLast hne).symm, by rw [List.length_dropLast, hj]⟩

/-- Where the insertion stands. -/
structure Ins (w wq : World) (base g n cp j : Nat) (x : ByteArray) (P R A : List ByteArray) (z : ByteArray) (B : List ByteArray) : Prop where
  len : A.length = j
  cut : A ++ B = P
  gt : ∀ b ∈ B, ¬ Dd.le b x
  mem : Holds wq base g n cp (A ++ z :: (B ++ R))
  bel : Below base w wq

/-- Where the sort stands. -/
structure Srt (w wr : World) (base g n cp k : Nat) (ss P Q : List ByteArray) : Prop where
  len : P.length = k
  srt : Dd.Sorted P
  same : ∀ y, y ∈ P ++ Q ↔ y ∈ ss
  mem : Holds wr base g n cp (P ++ Q)
  bel : Below base w wr

theorem Ins.step {w wq : World} {base g n cp j : Nat} {x y z : ByteArray} {P R A' B : List ByteArray} (h : Ins w wq base g n cp j x P R (A' ++ [y]) z B) (hgt : ¬ Dd.le y x) :
    Ins w (wq.setCell ⟨g, j, none⟩ (.string y)) base g n cp (j - 1) x P R A' y (y :: B) := by
  have hl := h.len
  rw [List.length_append, List.length_singleton] at hl
  refine ⟨by omega, ?_, ?_, ?_, h.bel.setCell h.mem.lt _⟩
  · rw [← h.cut, List.append_assoc]; rfl
  · intro b hb
    rw [List.mem_cons] at hb
    rcases hb with rfl | hb
    · exact hgt
    · exact h.gt b hb
  · have hm := h.mem.set j y
    rw [set_mid _ _ _ _ h.len, List.append_assoc] at hm
    exact hm

theorem Ins.done {w wq : World} {base g n cp j k : Nat} {x z : ByteArray} {ss P R A B : List ByteArray} (h : Ins w wq base g n cp j x P R A z B) (hP : P.length = k) (hs : Dd.Sorted P) (hm : ∀ y, y ∈ P ++ x :: R ↔ y ∈ ss)
    (hA : ∀ a, A.getLast? = some a → Dd.le a x) : Srt w (wq.setCell ⟨g, j, none⟩ (.string x)) base g n cp (k + 1) ss (A ++ x :: B) R := by
  have hc := h.cut
  refine ⟨?_, Dd.insert_sorted (by rw [hc]; exact hs) hA h.gt, ?_, ?_, h.bel.setCell h.mem.lt _⟩
  · rw [← hP, ← hc]; simp only [List.length_append, List.length_cons]; omega
  · intro y
    rw [← hm, ← hc]
    simp only [List.mem_append, List.mem_cons]
    constructor
    · rintro ((h1 | h1 | h1) | h1)
      · exact .inl (.inl h1)
      · exact .inr (.inl h1)
      · exact .inl (.inr h1)
      · exact .inr (.inr h1)
    · rintro ((h1 | h1) | h1 | h1)
      · exact .inl (.inl h1)
      · exact .inl (.inr (.inr h1))
      · exact .inl (.inr (.inl h1))
      · exact .inr h1
  · have hm2 := h.mem.set j x
    rw [set_mid _ _ _ _ h.len] at hm2
    rw [List.append_assoc]
    exact hm2

theorem le_cases {y x : ByteArray} (h : Dd.le y x) : Op.bytesLess y.toList x.toList = true ∨ (Op.bytesLess y.toList x.toList = false ∧ (y.toList == x.toList) = true) := by
  unfold Dd.le at h
  cases e : Op.bytesLess y.toList x.toList with
  | true => exact .inl rfl
  | false => rw [e, Bool.false_or] at h; exact .inr ⟨rfl, h⟩
theorem gt_cases {y x : ByteArray} (h : ¬ Dd.le y x) : Op.bytesLess y.toList x.toList = false ∧ (y.toList == x.toList) = false := by
  unfold Dd.le at h
  cases e : Op.bytesLess y.toList x.toList with
  | true => rw [e] at h; simp at h
  | false =>
    rw [e, Bool.false_or] at h
    cases e2 : y.toList == x.toList with
    | true => exact absurd e2 h
    | false => exact ⟨rfl, rfl⟩

set_option maxHeartbeats 2000000 in
set_option maxRecDepth 100000 in
theorem count_any (p : Option Addr) (n cap : Nat) (ss : List ByteArray) (w : World) (h : SRow w p n ss) (hn : n ≤ 4096) :
    Calls Try.prog 13 #[.slice p n cap] w fun e w' => e = .returned (.int .i64 (Dd.dd ss).length) ∧ Below w.heap.size w w' := by
  have H := Lib.hid h
  clear h
  go_enter Try.func13, Try.ntmps13
  go_wp2_with fail
  refine (clone_any p n cap ss _ H.out (by omega)).mono ?_
  rintro e w1 ⟨v, rfl, hO, hb1⟩
  by_cases h0 : n = 0
  · have hss : ss = [] := List.eq_nil_of_length_eq_zero (by rw [H.out.1]; exact h0)
    obtain ⟨p1, c1, rfl, -⟩ := hO.shape H.out.1
    subst h0
    have HD : Hid (((Dd.dd ss).length : Int) = 0) := Lib.hid (by rw [hss]; rfl)
    clear hO hss
    go_wp2
    refine wp_loop_rounds 1 ?_
    rw [rounds_succ]
    go_wp2
    refine wp_loop_rounds 1 ?_
    rw [rounds_succ]
    go_wp2
    go_ret
    exact ⟨by rw [HD.out]; rfl, hb1⟩
  obtain ⟨g, cp, rfl, hO2⟩ : ∃ g cp, v = .slice (some ⟨g, 0, none⟩) n cp ∧ Holds w1 w.heap.size g n cp ss := by
    have hl := H.out.1
    have hO' := hO
    rcases hO.2 with ⟨_, hz⟩ | ⟨g, cp, cur, e, _⟩
    · exact absurd (hl.symm.trans hz) h0
    · rw [hl] at e
      subst e
      exact ⟨g, cp, rfl, hl, by have := hO'; unfold Own at this; rw [hl] at this; exact this⟩
  obtain ⟨s0, rest, hss⟩ : ∃ s0 rest, ss = s0 :: rest := by
    cases hc : ss with
    | nil => have := H.out.1; rw [hc] at this; simp at this; omega
    | cons a l => exact ⟨a, l, rfl⟩
  have HSt : Hid (Srt w w1 w.heap.size g n cp 1 ss [s0] rest) := Lib.hid ⟨rfl, List.pairwise_singleton _ _, fun y => by rw [hss]; rfl, by rw [hss] at hO2; exact hO2, hb1⟩
  clear hO hO2 hb1 hss
  go_wp2
  go_loopw [4] (fun vi wr => ∃ (k : Nat) (P Q : List ByteArray), vi = .int .i64 k ∧ 1 ≤ k ∧ k ≤ n ∧ Hid (Srt w wr w.heap.size g n cp k ss P Q)) (fun vi _ => n - (intOf vi).toNat)
  case atStart => exact ⟨1, [s0], rest, rfl, by omega, by omega, HSt⟩
  case round =>
    obtain ⟨k, P, Q, rfl, hk1, hk, HK⟩ := hrel
    by_cases hkn : k < n
    · obtain ⟨x, R, hQ⟩ : ∃ x R, Q = x :: R := by
        cases hc : Q with
        | nil => have h1 := HK.out.mem.1; have h2 := HK.out.len; rw [hc, List.append_nil] at h1; omega
        | cons a l => exact ⟨a, l, rfl⟩
      subst hQ
      have hck := HK.out.mem.cell k hkn
      rw [getD_mid _ _ _ HK.out.len] at hck
      have HI : Hid (Ins w wr w.heap.size g n cp k x P R P x []) := Lib.hid ⟨HK.out.len, List.append_nil _, (fun b hb => by cases hb), HK.out.mem, HK.out.bel⟩
      have HL := Lib.hid HK.out.len
      have HS := Lib.hid HK.out.srt
      have HM := Lib.hid HK.out.same
      clear HK HSt
      go_wp2
      go_loopw [6] (fun vj wq => ∃ (j : Nat) (A : List ByteArray) (z : ByteArray) (B : List ByteArray), vj = .int .i64 j ∧ j ≤ k ∧ Hid (Ins w wq w.heap.size g n cp j x P R A z B)) (fun vj _ => (intOf vj).toNat)
      case atStart => exact ⟨k, P, x, [], rfl, Nat.le_refl _, HI⟩
      case round =>
        obtain ⟨j, A, z, B, rfl, hj, HJ⟩ := hrel
        have hcj := HJ.out.mem.cell j (by omega)
        rw [getD_mid _ _ _ HJ.out.len] at hcj
        have hfj := HJ.out.mem.free j
        clear hck HI
        by_cases hj0 : 0 < j
        · obtain ⟨A', y, hA, hA'⟩ := split_last A HJ.out.len hj0
          subst hA
          have hcy := HJ.out.mem.cell (j - 1) (by omega)
          rw [List.append_assoc, List.singleton_append, getD_mid _ _ _ hA'] at hcy
          clear hA'
          by_cases hle : Dd.le y x
          · have HD := Lib.hid (HJ.out.done HL.out HS.out HM.out (fun a ha => by rw [List.getLast?_append, List.getLast?_singleton, Option.some_or] at ha; cases ha; exact hle))
            clear HJ HL HS HM
            rcases le_cases hle with t1 | ⟨t1, t2⟩
            all_goals
              clear hle
              go_wp2
              go_roundw
              case rel => exact ⟨k + 1, _, R, by go_num, by omega, by omega, HD⟩
              case measure => simp [intOf]; omega
          · have HN := Lib.hid (HJ.out.step hle)
            obtain ⟨t1, t2⟩ := gt_cases hle
            clear HJ hle HL HS HM
            go_wp2
            go_roundw
            case rel => exact ⟨j - 1, A', y, y :: B, by go_num, by omega, HN⟩
            case measure => simp [intOf]; omega
        · have hAn : A = [] := List.eq_nil_of_length_eq_zero (by rw [HJ.out.len]; omega)
          have HD := Lib.hid (HJ.out.done HL.out HS.out HM.out (fun a ha => by rw [hAn] at ha; cases ha))
          clear HJ HL HS HM hAn
          go_wp2
          go_roundw
          case rel => exact ⟨k + 1, _, R, by go_num, by omega, by omega, HD⟩
          case measure => simp [intOf]; omega
    · have hke : k = n := by omega
      have hQ : Q = [] := by
        have h1 := HK.out.mem.1
        have h2 := HK.out.len
        rw [List.length_append] at h1
        exact List.eq_nil_of_length_eq_zero (by omega)
      subst hQ
      have hmem : Holds wr w.heap.size g n cp P := by have := HK.out.mem; rw [List.append_nil] at this; exact this
      have hsame : (Dd.dd P).length = (Dd.dd ss).length := Dd.dd_length (fun y => by have := HK.out.same y; rw [List.append_nil] at this; exact this)
      have HS := Lib.hid HK.out.srt
      have HE := Lib.hid hsame
      have HM := Lib.hid hmem
      have hbr := HK.out.bel
      clear HK HSt hke hmem hsame
      go_wp2
      go_loopw [7, 8] (fun vc vi wq => ∃ (i m : Nat), vc = .int .i64 m ∧ vi = .int .i64 i ∧ i ≤ n ∧ m ≤ i ∧ Hid (m = (Dd.ddTo P i).length) ∧ Hid (Holds wq w.heap.size g n cp P) ∧ Below w.heap.size w wq) (fun _ vi _ => n - (intOf vi).toNat)
      case atStart => exact ⟨0, 0, rfl, rfl, by omega, by omega, by rw [Dd.ddTo_zero]; exact rfl, HM, hbr⟩
      case round =>
        obtain ⟨i, m, rfl, rfl, hi, hmi, HC, HW, hbq⟩ := hrel
        by_cases hin : i < n
        · have hPl : P.length = n := HW.out.1
          by_cases hi0 : i = 0
          · subst hi0
            have hm0 : m = 0 := by omega
            subst hm0
            have hnx : (Dd.ddTo P 1).length = 1 := by
              rw [Dd.ddTo_miss P 0 (by omega) (by rw [Dd.ddTo_zero]; exact fun h => by cases h), Dd.ddTo_zero]; rfl
            have HN := Lib.hid hnx
            clear hnx hPl HM hbr
            go_wp2
            go_quiet (fail)
            go_wp2
            go_roundw
            case rel => exact ⟨1, 1, by go_num, by go_num, by omega, by omega, HN.out.symm, HW.out.drewN _, below_drewN hbq _⟩
            case measure => simp [intOf]; omega
          · have hiff := Dd.new_iff HS.out (i - 1) (by omega)
            rw [show i - 1 + 1 = i by omega] at hiff
            have c1 := HW.out.cell i hin
            have c0 := HW.out.cell (i - 1) (by omega)
            have hne0 : ((i : Int) == 0) = false := beq_eq_false_iff_ne.2 (by omega)
            have hI : (i : Int) < n := by omega
            have hI0 : (0 : Int) < i := by omega
            by_cases heq : P.getD i ByteArray.empty = P.getD (i - 1) ByteArray.empty
            · have hnx : Dd.ddTo P (i + 1) = Dd.ddTo P i := Dd.ddTo_hit P i (by omega) (hiff.2 heq)
              have HN := Lib.hid hnx
              rw [heq] at c1
              generalize P.getD (i - 1) ByteArray.empty = y at c0 c1
              have tt : (y.toList != y.toList) = false := by simp
              clear hnx hPl HM hbr hiff heq
              go_wp2
              go_quiet (fail)
              go_wp2
              go_roundw
              case rel => exact ⟨i + 1, m, by go_num, by go_num, by omega, by omega, by rw [HN.out]; exact HC, HW.out.drewN _, below_drewN hbq _⟩
              case measure => simp [intOf]; omega
            · have hnx : (Dd.ddTo P (i + 1)).length = m + 1 := by rw [Dd.ddTo_miss P i (by omega) (fun h => heq (hiff.1 h)), List.length_append, List.length_singleton, ← HC.out]
              have HN := Lib.hid hnx
              generalize P.getD (i - 1) ByteArray.empty = y at c0 heq
              generalize P.getD i ByteArray.empty = x at c1 heq
              have tt : (x.toList == y.toList) = false := beqs_ne heq
              clear hnx hPl HM hbr hiff heq
              go_wp2
              go_quiet (fail)
              go_wp2
              go_roundw
              case rel => exact ⟨i + 1, m + 1, by go_num, by go_num, by omega, by omega, HN.out.symm, HW.out.drewN _, below_drewN hbq _⟩
              case measure => simp [intOf]; omega
        · have hin2 : i = n := by omega
          have hfin : (m : Int) = (Dd.dd ss).length := by rw [HC.out, hin2, ← HE.out, ← Dd.ddTo_all, HW.out.1]
          have HF := Lib.hid hfin
          clear hin2 hfin HM hbr
          go_wp2
          go_ret
          exact ⟨by rw [← HF.out]; rfl, hbq⟩

end Go.Proofs.Qxb6618756a
