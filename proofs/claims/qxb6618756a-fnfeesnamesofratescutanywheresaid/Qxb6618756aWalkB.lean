/-
  zzCloneStrings; zzHasDuplicate; zzSameStrings.
-/
import Derived.Test.Qxb6618756aWalkA
import Derived.Deep.QuietTactic
import Derived.BigQuiet
import Derived.Lib.AtoiErrMem
import Derived.Lib.SliceRun
namespace Go.Proofs.Qxb6618756a
open Go.RowKit

def strCells (ss : List ByteArray) : List Value := ss.map Value.string
theorem strCells_len (ss : List ByteArray) : (strCells ss).length = ss.length := by simp [strCells]
theorem strCells_get (ss : List ByteArray) (j : Nat) (h : j < ss.length) : (strCells ss)[j]? = some (.string (ss.getD j ByteArray.empty)) := by
  simp [strCells, List.getD, List.getElem?_eq_getElem h]

theorem Try.info9 : (Try.prog.info? 9).map (fun i => (i.zero, i.size, i.bytes)) = some (some (.string ⟨#[]⟩), 1, 16) := by kernel_rfl

/-- A slice of the call's own that holds just these strings. -/
def Own (w : World) (base : Nat) (v : Value) (ss : List ByteArray) : Prop := w.ownsRow base 9 1 v ss.length (strCells ss)

theorem Own.row {w : World} {base : Nat} {v : Value} {ss : List ByteArray} (h : Own w base v ss) : ∃ p cap, v = .slice p ss.length cap ∧ SRow w p ss.length ss := by
  have h0 := h
  rcases h.2 with ⟨rfl, hn⟩ | ⟨g, cap, cur, rfl, hb, hg, hnc, hcm, hcs, htake⟩
  · exact ⟨none, 0, by rw [hn], rfl, .inl hn⟩
  · refine ⟨_, cap, rfl, rfl, .inr ⟨g, 0, rfl, fun j hj => ?_⟩⟩
    have hc := World.ownsRow.cellAt (show w.ownsRow base 9 1 (.slice (some ⟨g, 0, none⟩) ss.length cap) ss.length (strCells ss) from h0) j (by omega)
    rw [Nat.zero_add, hc, strCells_get ss j hj]

theorem SRow.below {w w' : World} {p : Option Addr} {n : Nat} {ss : List ByteArray} (h : SRow w p n ss) (hb : Below w.heap.size w w') : SRow w' p n ss := by
  obtain ⟨hl, h0 | ⟨b, off, hp, hc⟩⟩ := h
  · exact ⟨hl, .inl h0⟩
  · exact ⟨hl, .inr ⟨b, off, hp, fun j hj => (hb.cell (p := ⟨b, off + j, none⟩) (Lib.lt_of_cell (hc j hj))).trans (hc j hj)⟩⟩

set_option maxHeartbeats 1000000 in
theorem clone_any (p : Option Addr) (n cap : Nat) (ss : List ByteArray) (w : World) (h : SRow w p n ss) (hn : n ≤ 1048576) :
    Calls Try.prog 6 #[.slice p n cap] w fun e w' => ∃ v, e = .returned v ∧ Own w' w.heap.size v ss ∧ Below w.heap.size w w' := by
  obtain ⟨hl, h2⟩ := h
  subst hl
  obtain ⟨i0, hi, hz0, hz1, hz2⟩ := info_parts Try.info9
  have heq := fun (W : World) (a : Option Addr) (n c n' c' : Nat) => Lib.run_eql_slice_nil (P := Try.prog) W 22 9 a n c n' c' Try.underlying22
  cases p with
  | none =>
    have h0 : ss.length = 0 := by
      rcases h2 with h0 | ⟨b, off, e, _⟩
      · exact h0
      · cases e
    have h0' : ss = [] := List.eq_nil_of_length_eq_zero h0
    subst h0'
    go_enter Try.func6, Try.ntmps6
    go_wp2
    go_ret
    exact ⟨_, rfl, World.ownsRow_nil _ _ _ _, Below.refl _ _⟩
  | some ad =>
    rcases h2 with h0 | ⟨b, off, e, hc⟩
    · have h0' : ss = [] := List.eq_nil_of_length_eq_zero h0
      subst h0'
      go_enter Try.func6, Try.ntmps6
      go_wp2_with (at_make; refine wpList_make_full _ rfl _ _ 22 rfl w.heap.size 9 i0 (.string ⟨#[]⟩) 1 Try.underlying22 hi hz0 hz1 _ _ _ _ 0 rfl rfl rfl rfl (by rw [hz2]; decide) (by unfold maxLen; omega) (Nat.le_refl _) ?_)
      intro w1 hown hgrow
      go_wp2
      refine wp_loop_rounds 1 ?_
      rw [rounds_succ]
      have hown' : w1.ownsRow w.heap.size 9 1 (.slice (some ⟨w.heap.size, 0, none⟩) 0 0) 0 (strCells []) := by rw [toList_madeCells_one] at hown; exact hown
      clear hown
      go_wp2
      go_ret
      exact ⟨_, rfl, hown', (Below.refl _ _).grown hgrow (Nat.le_refl _) (fun k h => by cases h)⟩
    · cases e
      generalize hN : ss.length = n at *
      have HN := Lib.hid hN
      clear hN
      go_enter Try.func6, Try.ntmps6
      go_wp2_with (at_make; refine wpList_make_full _ rfl _ _ 22 rfl w.heap.size 9 i0 (.string ⟨#[]⟩) 1 Try.underlying22 hi hz0 hz1 _ _ _ _ n rfl rfl rfl rfl (by rw [hz2]; omega) (by unfold maxLen; omega) (Nat.le_refl _) ?_)
      intro w1 hown hgrow
      have hb1 : Below w.heap.size w w1 := (Below.refl _ _).grown hgrow (Nat.le_refl _) (fun k h => by cases h)
      obtain ⟨xs0, Q1⟩ : ∃ xs0, Hid (w1.ownsRow w.heap.size 9 1 (.slice (some ⟨w.heap.size, 0, none⟩) n n) n xs0) := ⟨_, Lib.hid hown⟩
      clear hown hgrow heq
      go_wp2
      go_loopw [4] (fun vi wr => ∃ (k : Nat) (xs : List Value), vi = .int .i64 k ∧ k ≤ n ∧ Hid (wr.ownsRow w.heap.size 9 1 (.slice (some ⟨w.heap.size, 0, none⟩) n n) n xs) ∧ Hid (∀ j, j < k → xs[j]? = some (.string (ss.getD j ByteArray.empty))) ∧ Below w.heap.size w wr) (fun vi _ => n - (intOf vi).toNat)
      case atStart => exact ⟨0, _, rfl, Nat.zero_le _, Q1, fun j hj => by omega, hb1⟩
      case round =>
        obtain ⟨k, xs, rfl, hk, HO, HX, hbr⟩ := hrel
        by_cases hkn : k < n
        · have hck := (hbr.cell (p := ⟨b, off + k, none⟩) (Lib.lt_of_cell (hc k hkn))).trans (hc k hkn)
          have hxl : xs.length = n * 1 := HO.out.1
          have hdk := HO.out.cellAt k (by omega)
          have hfk := HO.out.frozenAt k
          obtain ⟨z, hz⟩ : ∃ z, xs[k]? = some z := ⟨_, List.getElem?_eq_getElem (show k < xs.length by omega)⟩
          rw [hz] at hdk
          have HN2 : Hid ((wr.setCell ⟨w.heap.size, k, none⟩ (.string (ss.getD k ByteArray.empty))).ownsRow w.heap.size 9 1 (.slice (some ⟨w.heap.size, 0, none⟩) n n) n (xs.set k (.string (ss.getD k ByteArray.empty)))) := Lib.hid (HO.out.stored k _).1
          have HX2 : Hid (∀ j, j < k + 1 → (xs.set k (.string (ss.getD k ByteArray.empty)))[j]? = some (.string (ss.getD j ByteArray.empty))) := Lib.hid (fun j hj => by
            by_cases e : j = k
            · subst e; rw [List.getElem?_set_self (by omega)]
            · rw [List.getElem?_set_ne (fun h => e h.symm)]; exact HX.out j (by omega))
          have HB2 : Hid (Below w.heap.size w (wr.setCell ⟨w.heap.size, k, none⟩ (.string (ss.getD k ByteArray.empty)))) := Lib.hid (hbr.setCell (Nat.le_refl _) _)
          clear HO HX hbr hc hb1 hxl hz
          generalize ss.getD k ByteArray.empty = y at hck HN2 HX2 HB2
          go_wp2
          go_roundw
          case rel => exact ⟨k + 1, _, by go_num, by omega, HN2, HX2, HB2.out⟩
          case measure => simp [intOf]; omega
        · have hke : k = n := by omega
          have hxl : xs.length = n * 1 := HO.out.1
          have hxs : xs = strCells ss := by
            refine List.ext_getElem? fun j => ?_
            by_cases hj : j < n
            · rw [HX.out j (by omega), strCells_get ss j (by rw [HN.out]; exact hj)]
            · rw [List.getElem?_eq_none (by omega), List.getElem?_eq_none (by rw [strCells_len, HN.out]; omega)]
          have HF : Hid (wr.ownsRow w.heap.size 9 1 (.slice (some ⟨w.heap.size, 0, none⟩) n n) ss.length (strCells ss)) := Lib.hid (by rw [← hxs, HN.out]; exact HO.out)
          clear HO HX hxs hxl hke
          go_wp2
          go_ret
          exact ⟨_, rfl, HF.out, hbr⟩

set_option maxHeartbeats 1000000 in
theorem noDup_any (p : Option Addr) (n cap : Nat) (ss : List ByteArray) (w : World) (h : SRow w p n ss) (hn : n ≤ 1048576) (hd : ∀ i j, i < j → j < n → ss.getD i ByteArray.empty ≠ ss.getD j ByteArray.empty) :
    Calls Try.prog 9 #[.slice p n cap] w fun e w' => e = .returned (.bool false) ∧ Below w.heap.size w w' := by
  obtain ⟨hl, rfl | ⟨b, off, rfl, hc⟩⟩ := h
  · go_enter Try.func9, Try.ntmps9
    go_wp2
    refine wp_loop_rounds 1 ?_
    rw [rounds_succ]
    go_wp2
    go_ret
    exact ⟨rfl, Below.refl _ _⟩
  · have HD := Lib.hid hd
    clear hd
    go_enter Try.func9, Try.ntmps9
    go_wp2
    go_loopw [3] (fun vi wr => ∃ k : Nat, vi = .int .i64 k ∧ k ≤ n ∧ Below w.heap.size w wr) (fun vi _ => n - (intOf vi).toNat)
    case atStart => exact ⟨0, rfl, Nat.zero_le _, Below.refl _ _⟩
    case round =>
      obtain ⟨k, rfl, hk, hbr⟩ := hrel
      by_cases hkn : k < n
      · go_wp2
        go_loopw [4] (fun vi wq => ∃ m : Nat, vi = .int .i64 m ∧ k < m ∧ m ≤ n ∧ Below w.heap.size w wq) (fun vi _ => n - (intOf vi).toNat)
        case atStart => exact ⟨k + 1, by go_num, by omega, by omega, hbr⟩
        case round =>
          obtain ⟨m, rfl, hkm, hm, hbq⟩ := hrel
          by_cases hmn : m < n
          · have c1 := (hbq.cell (p := ⟨b, off + k, none⟩) (Lib.lt_of_cell (hc k hkn))).trans (hc k hkn)
            have c2 := (hbq.cell (p := ⟨b, off + m, none⟩) (Lib.lt_of_cell (hc m hmn))).trans (hc m hmn)
            have hne := HD.out k m hkm hmn
            generalize ss.getD k ByteArray.empty = x at c1 hne
            generalize ss.getD m ByteArray.empty = y at c2 hne
            have ht : (x.toList == y.toList) = false := beqs_ne hne
            clear hne hc hbr
            go_wp2
            go_quiet (fail)
            go_wp2
            go_roundw
            case rel => exact ⟨m + 1, by go_num, by omega, by omega, below_drewN hbq _⟩
            case measure => simp [intOf]; omega
          · clear hc
            go_wp2
            go_roundw
            case rel => exact ⟨k + 1, by go_num, by omega, hbq⟩
            case measure => simp [intOf]; omega
      · go_wp2
        go_ret
        exact ⟨rfl, hbr⟩

set_option maxHeartbeats 1000000 in
theorem same_any (p q : Option Addr) (n cap cap2 : Nat) (ss : List ByteArray) (w : World) (h : SRow w p n ss) (h' : SRow w q n ss) (hn : n ≤ 1048576) :
    Calls Try.prog 12 #[.slice p n cap, .slice q n cap2] w fun e w' => e = .returned (.bool true) ∧ Below w.heap.size w w' := by
  obtain ⟨hl, rfl | ⟨b, off, rfl, hc⟩⟩ := h
  · go_enter Try.func12, Try.ntmps12
    go_wp2
    refine wp_loop_rounds 1 ?_
    rw [rounds_succ]
    go_wp2
    go_ret
    exact ⟨rfl, Below.refl _ _⟩
  · obtain ⟨hl', rfl | ⟨b', off', rfl, hc'⟩⟩ := h'
    · go_enter Try.func12, Try.ntmps12
      go_wp2
      refine wp_loop_rounds 1 ?_
      rw [rounds_succ]
      go_wp2
      go_ret
      exact ⟨rfl, Below.refl _ _⟩
    clear hl hl'
    have hnn : ((n : Int) != (n : Int)) = false := by simp
    go_enter Try.func12, Try.ntmps12
    go_wp2
    go_loopw [5] (fun vi wr => ∃ k : Nat, vi = .int .i64 k ∧ k ≤ n ∧ Below w.heap.size w wr) (fun vi _ => n - (intOf vi).toNat)
    case atStart => exact ⟨0, rfl, Nat.zero_le _, Below.refl _ _⟩
    case round =>
      obtain ⟨k, rfl, hk, hbr⟩ := hrel
      by_cases hkn : k < n
      · have c1 := (hbr.cell (p := ⟨b, off + k, none⟩) (Lib.lt_of_cell (hc k hkn))).trans (hc k hkn)
        have c2 := (hbr.cell (p := ⟨b', off' + k, none⟩) (Lib.lt_of_cell (hc' k hkn))).trans (hc' k hkn)
        generalize ss.getD k ByteArray.empty = x at c1 c2
        have ht : (x.toList != x.toList) = false := by simp
        clear hc hc'
        go_wp2
        go_quiet (fail)
        go_wp2
        go_roundw
        case rel => exact ⟨k + 1, by go_num, by omega, below_drewN hbr _⟩
        case measure => simp [intOf]; omega
      · clear hc hc'
        go_wp2
        go_ret
        exact ⟨rfl, hbr⟩

end Go.Proofs.Qxb6618756a
