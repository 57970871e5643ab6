/-
  (*Fees).Names.
-/
import Derived.Test.Qxb6618756aWalkD
import Derived.Test.Qxb6618756aPlain
namespace Go.Proofs.Qxb6618756a
open Go.RowKit

theorem Own.below {w w' : World} {base : Nat} {v : Value} {ss : List ByteArray} (h : Own w base v ss) (hb : Below w.heap.size w w') : Own w' base v ss := by
  obtain ⟨h1, h2⟩ := h
  refine ⟨h1, ?_⟩
  rcases h2 with h0 | ⟨g, cap, cur, e, hbg, hg, hr⟩
  · exact .inl h0
  · refine .inr ⟨g, cap, cur, e, hbg, ?_, hr⟩
    have hlt : g < w.heap.size := by
      rcases Nat.lt_or_ge g w.heap.size with h | h
      · exact h
      · rw [Array.getElem?_eq_none h] at hg; cases hg
    rw [hb.block g hlt]; exact hg

theorem Own.srow {w : World} {base : Nat} {p : Option Addr} {m cp : Nat} {ss : List ByteArray} (h : Own w base (.slice p m cp) ss) : m = ss.length ∧ SRow w p m ss := by
  obtain ⟨p', cap', e, hr⟩ := h.row
  simp only [Value.slice.injEq] at e
  obtain ⟨rfl, rfl, rfl⟩ := e
  exact ⟨rfl, hr⟩

set_option maxHeartbeats 1000000 in
theorem names_any (pb : Nat) (rp : Option Addr) (n rc : Nat) (ss : List ByteArray) (w : World) (hf : w.cell? ⟨pb, 0, none⟩ = some (.slice rp n rc)) (hl : ss.length = n) (hn : n ≤ 4096)
    (h : n = 0 ∨ ∃ b off, rp = some ⟨b, off, none⟩ ∧ RCells w b off n ss) :
    Calls Try.prog 8 #[.pointer (some ⟨pb, 0, none⟩)] w fun e w' => ∃ v, e = .returned v ∧ Own w' w.heap.size v (Dd.dd ss) ∧ Below w.heap.size w w' := by
  obtain ⟨i0, hi, hz0, hz1, hz2⟩ := info_parts Try.info9
  have HL := Lib.hid hl
  have H := Lib.hid h
  clear hl h
  go_enter Try.func8, Try.ntmps8
  go_wp2
  go_loopw [3, 11] (fun vn vi wr => ∃ (k : Nat) (p : Option Addr) (m cp : Nat), vn = .slice p m cp ∧ vi = .int .i64 k ∧ k ≤ n ∧ m ≤ k ∧ Hid (m = (Dd.ddTo ss k).length) ∧ Hid (Own wr w.heap.size (.slice p m cp) (Dd.ddTo ss k)) ∧ Below w.heap.size w wr) (fun _ vi _ => n - (intOf vi).toNat)
  case atStart => exact ⟨0, none, 0, 0, rfl, rfl, Nat.zero_le _, Nat.le_refl _, by rw [Dd.ddTo_zero]; exact rfl, by rw [Dd.ddTo_zero]; exact World.ownsRow_nil _ _ _ _, Below.refl _ _⟩
  case round =>
    obtain ⟨k, p, m, cp, rfl, rfl, hk, hmk, HM, HO, hbr⟩ := hrel
    by_cases hkn : k < n
    · obtain ⟨b, off, rfl, hc⟩ : ∃ b off, rp = some ⟨b, off, none⟩ ∧ RCells w b off n ss := by
        rcases H.out with h0 | h1
        · omega
        · exact h1
      obtain ⟨c0, ⟨cc, c1⟩, c2, c3⟩ := (hc.below hbr) k hkn
      obtain ⟨y, hy⟩ : ∃ y, ss.getD k ByteArray.empty = y := ⟨_, rfl⟩
      rw [hy] at c0
      have HY := Lib.hid hy
      clear hc hy hf
      have hb2 : Below wr.heap.size wr (wr.alloc (.cells #[.string y, .string cc, .pointer none, .int .i32 0] 42)) := (Below.refl _ _).alloc (Nat.le_refl _) _
      have S2 : SRow (wr.alloc (.cells #[.string y, .string cc, .pointer none, .int .i32 0] 42)) p m (Dd.ddTo ss k) := HO.out.srow.2.below hb2
      have hsz := hbr.size
      have HB2 : Hid (Below w.heap.size w (wr.alloc (.cells #[.string y, .string cc, .pointer none, .int .i32 0] 42))) := Lib.hid (hbr.alloc hsz _)
      clear hb2
      by_cases hm : y ∈ Dd.ddTo ss k
      · have hnext : Dd.ddTo ss (k + 1) = Dd.ddTo ss k := Dd.ddTo_hit ss k (by rw [HL.out]; exact hkn) (by rw [HY.out]; exact hm)
        have HN := Lib.hid hnext
        have HO2 : Hid (Own (wr.alloc (.cells #[.string y, .string cc, .pointer none, .int .i32 0] 42)) w.heap.size (.slice p m cp) (Dd.ddTo ss (k + 1))) := Lib.hid (by rw [hnext]; exact HO.out.alloc _)
        clear hnext HO
        go_wp2_with fail
        refine (contains_yes p m cp _ y _ S2 (by omega) hm).mono ?_
        rintro e w2 ⟨rfl, hw⟩
        subst hw
        clear S2 hm
        go_wp2
        go_roundw
        case rel => exact ⟨k + 1, p, m, cp, rfl, by go_num, by omega, by omega, by rw [HN.out]; exact HM, HO2, HB2.out⟩
        case measure => simp [intOf]; omega
      · have hnext : Dd.ddTo ss (k + 1) = Dd.ddTo ss k ++ [y] := by rw [Dd.ddTo_miss ss k (by rw [HL.out]; exact hkn) (by rw [HY.out]; exact hm), HY.out]
        have HN := Lib.hid hnext
        have hO2 := (HO.out.alloc (.cells #[.string y, .string cc, .pointer none, .int .i32 0] 42)).alloc (.cells #[.string y] 9)
        have HO2 := Lib.hid hO2
        clear hnext HO hO2
        go_wp2_with fail
        refine (contains_no p m cp _ y _ S2 (by omega) hm).mono ?_
        rintro e w2 ⟨rfl, hw⟩
        subst hw
        clear S2 hm
        go_wp2_with (at_builtin; refine wpList_append_own _ rfl _ _ 22 rfl w.heap.size 9 i0 (.string ⟨#[]⟩) 1 16 Try.underlying22 hi hz0 hz1 hz2 rfl (by decide) _ _ _ rfl HO2.out ⟨wr.heap.size + 1, 0, none⟩ 1 1 [.string y] rfl rfl ?c1 ?c2 ?c3 ?c4 ?c5 ?_)
        case c1 =>
          intro j u hj
          match j, hj with
          | 0, hj => simp at hj; subst hj; simp [Addr.add]
        case c2 => intro u hu; simp at hu; subst hu; rfl
        case c3 => have := HM.out; unfold maxLen; omega
        case c4 => have := HM.out; omega
        case c5 => simp; omega
        intro v' w3 hown3 hgrow3 _
        have HO3 : Hid (Own w3 w.heap.size v' (Dd.ddTo ss (k + 1))) := Lib.hid (by
          unfold Own
          rw [HN.out]
          have e1 : strCells (Dd.ddTo ss k ++ [y]) = strCells (Dd.ddTo ss k) ++ [Value.string y] := by simp [strCells]
          rw [e1, List.length_append, List.length_singleton]
          exact hown3)
        have HB3 : Hid (Below w.heap.size w w3) := Lib.hid ((HB2.out.alloc (by simp; omega) _).grown hgrow3 (by simp; omega) (fun t ht => (HO2.out.lt t ht).1))
        obtain ⟨p', cp', hv', -⟩ := HO3.out.row
        have hlen : (Dd.ddTo ss (k + 1)).length = m + 1 := by rw [HN.out, List.length_append, List.length_singleton, ← HM.out]
        rw [hlen] at hv'
        have HLn := Lib.hid hlen
        rw [hv'] at HO3 ⊢
        clear hown3 hgrow3 HO2 hv' hlen
        go_wp2
        go_roundw
        case rel => exact ⟨k + 1, p', m + 1, cp', rfl, by go_num, by omega, by omega, HLn.out.symm, HO3, HB3.out⟩
        case measure => simp [intOf]; omega
    · have hke : k = n := by omega
      have hdd : Dd.ddTo ss k = Dd.dd ss := by rw [hke, ← HL.out, Dd.ddTo_all]
      have HF : Hid (Own wr w.heap.size (.slice p m cp) (Dd.dd ss)) := Lib.hid (by rw [← hdd]; exact HO.out)
      clear HO hdd hke hf
      go_wp2
      go_ret
      exact ⟨_, rfl, HF.out, hbr⟩

end Go.Proofs.Qxb6618756a
