/-
  zzBuildRates: the rates' names.
-/
import Derived.Test.Qxb6618756aWalkC
namespace Go.Proofs.Qxb6618756a
open Go.RowKit

theorem Try.info42 : (Try.prog.info? 42).map (fun i => (i.zero, i.size, i.bytes)) = some (some (.agg #[.string ⟨#[]⟩, .string ⟨#[]⟩, .pointer none, .int .i32 0]), 4, 48) := by kernel_rfl

/-- Of the first k rates: the name, some class, the nil amount. -/
def RFill (xs : List Value) (k : Nat) (ss : List ByteArray) : Prop :=
  ∀ j, j < k → xs[j * 4]? = some (.string (ss.getD j ByteArray.empty)) ∧ (∃ c, xs[j * 4 + 1]? = some (.string c)) ∧ xs[j * 4 + 2]? = some (.pointer none) ∧ xs[j * 4 + 3]? = some (.int .i32 0)

theorem set4 {xs : List Value} {n k : Nat} (hl : xs.length = n * 4) (hk : k < n) (a b c d : Value) (j : Nat) :
    ((((xs.set (k * 4) a).set (k * 4 + 1) b).set (k * 4 + 2) c).set (k * 4 + 3) d)[j]? = if k * 4 + 3 = j then some d else if k * 4 + 2 = j then some c else if k * 4 + 1 = j then some b else if k * 4 = j then some a else xs[j]? := by
  have l0 : k * 4 < xs.length := by omega
  have l1 : k * 4 + 1 < xs.length := by omega
  have l2 : k * 4 + 2 < xs.length := by omega
  have l3 : k * 4 + 3 < xs.length := by omega
  simp only [List.getElem?_set, List.length_set, l0, l1, l2, l3, if_true]

theorem fill_set {xs : List Value} {n k : Nat} {ss : List ByteArray} (h : RFill xs k ss) (hl : xs.length = n * 4) (hk : k < n) (c : ByteArray) :
    RFill ((((xs.set (k * 4) (.string (ss.getD k ByteArray.empty))).set (k * 4 + 1) (.string c)).set (k * 4 + 2) (.pointer none)).set (k * 4 + 3) (.int .i32 0)) (k + 1) ss := by
  intro j hj
  simp only [set4 hl hk]
  by_cases e : j = k
  · subst e
    refine ⟨?_, ⟨c, ?_⟩, ?_, ?_⟩
    · rw [if_neg (by omega), if_neg (by omega), if_neg (by omega), if_pos rfl]
    · rw [if_neg (by omega), if_neg (by omega), if_pos rfl]
    · rw [if_neg (by omega), if_pos rfl]
    · rw [if_pos rfl]
  · obtain ⟨h0, ⟨c1, h1⟩, h2, h3⟩ := h j (by omega)
    refine ⟨?_, ⟨c1, ?_⟩, ?_, ?_⟩
    · rw [if_neg (by omega), if_neg (by omega), if_neg (by omega), if_neg (by omega)]; exact h0
    · rw [if_neg (by omega), if_neg (by omega), if_neg (by omega), if_neg (by omega)]; exact h1
    · rw [if_neg (by omega), if_neg (by omega), if_neg (by omega), if_neg (by omega)]; exact h2
    · rw [if_neg (by omega), if_neg (by omega), if_neg (by omega), if_neg (by omega)]; exact h3

/-- Rates in memory, by their names. -/
def RCells (w : World) (b off n : Nat) (ss : List ByteArray) : Prop :=
  ∀ j, j < n → w.cell? ⟨b, off + j * 4, none⟩ = some (.string (ss.getD j ByteArray.empty)) ∧ (∃ c, w.cell? ⟨b, off + j * 4 + 1, none⟩ = some (.string c)) ∧ w.cell? ⟨b, off + j * 4 + 2, none⟩ = some (.pointer none) ∧ w.cell? ⟨b, off + j * 4 + 3, none⟩ = some (.int .i32 0)

theorem RCells.below {w w' : World} {b off n : Nat} {ss : List ByteArray} (h : RCells w b off n ss) (hb : Below w.heap.size w w') : RCells w' b off n ss := by
  intro j hj
  obtain ⟨h0, ⟨c, h1⟩, h2, h3⟩ := h j hj
  exact ⟨(hb.cell (Lib.lt_of_cell h0)).trans h0, ⟨c, (hb.cell (Lib.lt_of_cell h1)).trans h1⟩, (hb.cell (Lib.lt_of_cell h2)).trans h2, (hb.cell (Lib.lt_of_cell h3)).trans h3⟩

theorem own4 {w : World} {base g n : Nat} {xs : List Value} (h : w.ownsRow base 42 4 (.slice (some ⟨g, 0, none⟩) n n) n xs) (k : Nat) (a b c d : Value) :
    ((((w.setCell ⟨g, k * 4, none⟩ a).setCell ⟨g, k * 4 + 1, none⟩ b).setCell ⟨g, k * 4 + 2, none⟩ c).setCell ⟨g, k * 4 + 3, none⟩ d).ownsRow base 42 4 (.slice (some ⟨g, 0, none⟩) n n) n ((((xs.set (k * 4) a).set (k * 4 + 1) b).set (k * 4 + 2) c).set (k * 4 + 3) d) :=
  (World.ownsRow.stored (World.ownsRow.stored (World.ownsRow.stored (h.stored _ a).1 _ b).1 _ c).1 _ d).1

theorem below4 {w0 w : World} {B g : Nat} (h : Below B w0 w) (hB : B ≤ g) (k : Nat) (a b c d : Value) :
    Below B w0 ((((w.setCell ⟨g, k * 4, none⟩ a).setCell ⟨g, k * 4 + 1, none⟩ b).setCell ⟨g, k * 4 + 2, none⟩ c).setCell ⟨g, k * 4 + 3, none⟩ d) :=
  (((h.setCell hB a).setCell hB b).setCell hB c).setCell hB d

set_option maxHeartbeats 1000000 in
theorem rates_any (p q : Option Addr) (n c m d : Nat) (ss ts : List ByteArray) (w : World) (h : SRow w p n ss) (h' : SRow w q m ts) (hn : n ≤ 4096) :
    Calls Try.prog 7 #[.slice p n c, .slice q m d] w fun e w' => e = .returned (.slice (some ⟨w.heap.size, 0, none⟩) n n) ∧ RCells w' w.heap.size 0 n ss ∧ Below w.heap.size w w' := by
  obtain ⟨i0, hi, hz0, hz1, hz2⟩ := info_parts Try.info42
  have H := Lib.hid h
  have H' := Lib.hid h'
  clear h h'
  go_enter Try.func7, Try.ntmps7
  go_wp2_with (at_make; refine wpList_make_full _ rfl _ _ 26 rfl w.heap.size 42 i0 _ 4 Try.underlying26 hi hz0 hz1 _ _ _ _ n rfl rfl rfl rfl (by rw [hz2]; omega) (by unfold maxLen; omega) (Nat.le_refl _) ?_)
  intro w1 hown hgrow
  have hb1 : Below w.heap.size w w1 := (Below.refl _ _).grown hgrow (Nat.le_refl _) (fun k h => by cases h)
  obtain ⟨xs0, Q1⟩ : ∃ xs0, Hid (w1.ownsRow w.heap.size 42 4 (.slice (some ⟨w.heap.size, 0, none⟩) n n) n xs0) := ⟨_, Lib.hid hown⟩
  clear hown hgrow
  go_wp2
  go_loopw [6] (fun vi wr => ∃ (k : Nat) (xs : List Value), vi = .int .i64 k ∧ k ≤ n ∧ Hid (wr.ownsRow w.heap.size 42 4 (.slice (some ⟨w.heap.size, 0, none⟩) n n) n xs) ∧ Hid (RFill xs k ss) ∧ Below w.heap.size w wr) (fun vi _ => n - (intOf vi).toNat)
  case atStart => exact ⟨0, _, rfl, Nat.zero_le _, Q1, fun j hj => by omega, hb1⟩
  case round =>
    obtain ⟨k, xs, rfl, hk, HO, HX, hbr⟩ := hrel
    by_cases hkn : k < n
    · obtain ⟨b, off, rfl, hc⟩ := H.out.at_ hkn
      have hck := (hbr.cell (p := ⟨b, off + k, none⟩) (Lib.lt_of_cell (hc k hkn))).trans (hc k hkn)
      have hxl : xs.length = n * 4 := HO.out.1
      have hd0 := HO.out.cellAt (k * 4) (by omega)
      have hd1 := HO.out.cellAt (k * 4 + 1) (by omega)
      have hd2 := HO.out.cellAt (k * 4 + 2) (by omega)
      have hd3 := HO.out.cellAt (k * 4 + 3) (by omega)
      have hf := fun j => HO.out.frozenAt j
      obtain ⟨z0, hz0'⟩ : ∃ z, xs[k * 4]? = some z := ⟨_, List.getElem?_eq_getElem (show k * 4 < xs.length by omega)⟩
      obtain ⟨z1, hz1'⟩ : ∃ z, xs[k * 4 + 1]? = some z := ⟨_, List.getElem?_eq_getElem (show k * 4 + 1 < xs.length by omega)⟩
      obtain ⟨z2, hz2'⟩ : ∃ z, xs[k * 4 + 2]? = some z := ⟨_, List.getElem?_eq_getElem (show k * 4 + 2 < xs.length by omega)⟩
      obtain ⟨z3, hz3'⟩ : ∃ z, xs[k * 4 + 3]? = some z := ⟨_, List.getElem?_eq_getElem (show k * 4 + 3 < xs.length by omega)⟩
      rw [hz0'] at hd0
      rw [hz1'] at hd1
      rw [hz2'] at hd2
      rw [hz3'] at hd3
      have HX2 := fun c => Lib.hid (fill_set HX.out hxl hkn c)
      generalize ss.getD k ByteArray.empty = y at hck HX2
      have HO2 := fun c => Lib.hid (own4 HO.out k (.string y) (.string c) (.pointer none) (.int .i32 0))
      have HB2 := fun c => Lib.hid (below4 hbr (Nat.le_refl w.heap.size) k (.string y) (.string c) (.pointer none) (.int .i32 0))
      clear hc hz0' hz1' hz2' hz3' hxl HX HO
      by_cases hkm : k < m
      · obtain ⟨b', off', rfl, hc'⟩ := H'.out.at_ hkm
        have hck' := (hbr.cell (p := ⟨b', off' + k, none⟩) (Lib.lt_of_cell (hc' k hkm))).trans (hc' k hkm)
        generalize ts.getD k ByteArray.empty = y' at hck'
        have HX3 := HX2 y'
        have HO3 := HO2 y'
        have HB3 := HB2 y'
        clear hc' HX2 HO2 HB2 hbr hb1
        go_wp2
        go_roundw
        case rel => exact ⟨k + 1, _, by go_num, by omega, HO3, HX3, HB3.out⟩
        case measure => simp [intOf]; omega
      · have HX3 := HX2 ⟨#[]⟩
        have HO3 := HO2 ⟨#[]⟩
        have HB3 := HB2 ⟨#[]⟩
        clear HX2 HO2 HB2 hbr hb1
        go_wp2
        go_roundw
        case rel => exact ⟨k + 1, _, by go_num, by omega, HO3, HX3, HB3.out⟩
        case measure => simp [intOf]; omega
    · have hke : k = n := by omega
      have HF : Hid (RCells wr w.heap.size 0 n ss) := Lib.hid (fun j hj => by
        obtain ⟨h0, ⟨c1, h1⟩, h2, h3⟩ := HX.out j (by omega)
        have e : ∀ t, t < n * 4 → wr.cell? ⟨w.heap.size, t, none⟩ = xs[t]? := fun t ht => HO.out.cellAt t ht
        simp only [Nat.zero_add]
        exact ⟨(e _ (by omega)).trans h0, ⟨c1, (e _ (by omega)).trans h1⟩, (e _ (by omega)).trans h2, (e _ (by omega)).trans h3⟩)
      clear HO HX hke
      go_wp2
      go_ret
      exact ⟨rfl, HF.out, hbr⟩

end Go.Proofs.Qxb6618756a
