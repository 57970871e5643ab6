/-
  THE BOUNDS ON LENGTHS, AND A BYTE SLICE THAT CAME IN.
-/
import Derived.Test.Qxb6617450aDoorWalkD
import Derived.Laws.CopyOwn
namespace Go.Proofs.Qxb6617450aDoor
open Go.RowKit

set_option maxHeartbeats 400000 in
theorem bytes2_yes (p q : Option Addr) (n c m d : Nat) (w : World) (h : n + m ≤ 1048576) :
    Calls Tryd.prog 5 #[.slice p n c, .slice q m d] w fun e w' => e = .returned (.bool true) ∧ w' = w := by
  go_enter Tryd.func5, Tryd.ntmps5
  go_wp2
  go_ret
  exact ⟨rfl, rfl⟩

set_option maxHeartbeats 400000 in
theorem bytes2_no (p q : Option Addr) (n c m d : Nat) (w : World) (hn : n ≤ 9223372036854775807) (hm : m ≤ 9223372036854775807) (h : 1048576 < n + m) :
    Calls Tryd.prog 5 #[.slice p n c, .slice q m d] w fun e w' => e = .returned (.bool false) ∧ w' = w := by
  rcases (show 1048576 < n ∨ (n ≤ 1048576 ∧ 1048576 < m) ∨ (n ≤ 1048576 ∧ m ≤ 1048576) by omega) with h1 | h1 | h1
  all_goals
    go_enter Tryd.func5, Tryd.ntmps5
    go_wp2
    go_ret
    exact ⟨rfl, rfl⟩

set_option maxHeartbeats 400000 in
theorem bytes1_yes (p : Option Addr) (n c : Nat) (w : World) (h : n ≤ 1048576) :
    Calls Tryd.prog 8 #[.slice p n c] w fun e w' => e = .returned (.bool true) ∧ w' = w := by
  go_enter Tryd.func8, Tryd.ntmps8
  go_wp2
  go_ret
  exact ⟨rfl, rfl⟩

set_option maxHeartbeats 400000 in
theorem bytes1_no (p : Option Addr) (n c : Nat) (w : World) (hn : n ≤ 9223372036854775807) (h : 1048576 < n) :
    Calls Tryd.prog 8 #[.slice p n c] w fun e w' => e = .returned (.bool false) ∧ w' = w := by
  go_enter Tryd.func8, Tryd.ntmps8
  go_wp2
  go_ret
  exact ⟨rfl, rfl⟩

/-- A byte slice, nil or not: its bytes, and the cells where it has any. -/
structure Row (w : World) (p : Option Addr) (n cap : Nat) (bs : List UInt8) : Prop where
  len : bs.length = n
  le : n ≤ cap
  nil : p = none → n = 0 ∧ cap = 0
  at_ : ∀ ad, p = some ad → ∀ j u, (Lib.byteCells bs)[j]? = some u → w.cell? (ad.add j) = some u

theorem Row.below {w w' : World} {p : Option Addr} {n cap : Nat} {bs : List UInt8} (h : Row w p n cap bs) (hb : Below w.heap.size w w') : Row w' p n cap bs :=
  ⟨h.len, h.le, h.nil, fun ad e j u hu => by
    have hc := h.at_ ad e j u hu
    exact (hb.cell (Lib.lt_of_cell hc)).trans hc⟩

/-- A block that holds the bytes bs. -/
structure Held (w : World) (g : Nat) (bs : List UInt8) : Prop where
  at_ : ∀ j u, (Lib.byteCells bs)[j]? = some u → w.cell? ⟨g, j, none⟩ = some u

theorem Held.below {w w' : World} {g : Nat} {bs : List UInt8} (h : Held w g bs) (hb : Below w.heap.size w w') : Held w' g bs :=
  ⟨fun j u hu => by
    have hc := h.at_ j u hu
    exact (hb.cell (Lib.lt_of_cell hc)).trans hc⟩

theorem Held.row {w : World} {g n : Nat} {bs : List UInt8} (h : Held w g bs) (hn : bs.length = n) : Row w (some ⟨g, 0, none⟩) n n bs :=
  ⟨hn, Nat.le_refl _, (fun e => by cases e), fun ad e j u hu => by
    cases e
    have := h.at_ j u hu
    simp only [Addr.add, Nat.zero_add]
    by_cases e0 : j = 0
    · subst e0; rw [if_pos rfl]; exact this
    · rw [if_neg e0]; exact this⟩

theorem byteCells_get (bs : List UInt8) (j : Nat) (hj : j < bs.length) : (Lib.byteCells bs)[j]? = some (.int .u8 ((bs.getD j 0).toNat : Int)) := by
  simp [Lib.byteCells, List.getD, List.getElem?_eq_getElem hj]

theorem Held.cell {w : World} {g : Nat} {bs : List UInt8} (h : Held w g bs) (j : Nat) (hj : j < bs.length) : w.cell? ⟨g, j, none⟩ = some (.int .u8 ((bs.getD j 0).toNat : Int)) :=
  h.at_ j _ (byteCells_get bs j hj)

theorem Held.six {w : World} {g : Nat} {bs : List UInt8} (h : Held w g bs) (hn : 6 ≤ bs.length) :
    Six w g 0 (bs.getD 0 0) (bs.getD 1 0) (bs.getD 2 0) (bs.getD 3 0) (bs.getD 4 0) (bs.getD 5 0) :=
  ⟨h.cell 0 (by omega), h.cell 1 (by omega), h.cell 2 (by omega), h.cell 3 (by omega), h.cell 4 (by omega), h.cell 5 (by omega)⟩

/-- 'zzc := make([]byte, len(text)); copy(zzc, text)': what the two operations come to, for the walk to take: the new block holds the bytes. -/
theorem copied (w : World) (ad : Addr) (n cap : Nat) (bs : List UInt8) (h : Row w (some ad) n cap bs) (hn : n ≤ 281474976710656) :
    ∃ (M : Array Value) (W1 : World),
      (∀ W : World, (Instr.makeSlice 22 (.int .i64 (n : Int)) (.int .i64 (n : Int))).run Tryd.prog W = .ok (.slice (some ⟨W.heap.size, 0, none⟩) n n) (W.alloc (.cells M 5))) ∧
      (Builtin.copy_ #[22, 22] 3 #[.slice (some ⟨w.heap.size, 0, none⟩) n n, .slice (some ad) n cap]).run Tryd.prog (w.alloc (.cells M 5)) = .ok (.int .i64 (n : Int)) W1 ∧
      Below w.heap.size w W1 ∧ W1.heap.size = w.heap.size + 1 ∧ Held W1 w.heap.size bs := by
  obtain ⟨i0, hi, hz0, hz1, hz2⟩ := info_parts Tryd.info5
  have hinfo : (Tryd.prog.info? 5).map (·.size) = some 1 := by rw [hi]; simp [hz1]
  obtain ⟨M, hM⟩ : ∃ M, M = madeCells (Value.int .u8 0).cells ((n : Int).toNat * i0.size) := ⟨_, rfl⟩
  have hMs : M.size = n := by rw [hM, size_madeCells, hz1]; simp
  have hlen : (Lib.byteCells bs).length = n := by rw [Lib.byteCells_length, h.len]
  have hcp := run_copy_row (P := Tryd.prog) (w.alloc (.cells M 5)) 22 22 3 5 w.heap.size 0 n n ad n cap M 5 (Lib.byteCells bs) Tryd.underlying22 hinfo (heap_alloc_new w _) (by rw [hlen]; exact (Nat.min_self n).symm)
    (fun j v hv => by
      have hc := h.at_ ad rfl j v hv
      exact (((Below.refl w.heap.size w).alloc (Nat.le_refl _) _).cell (Lib.lt_of_cell hc)).trans hc) (by omega) (Lib.byteCells_one _)
  have hgY : ∀ Y, ((w.alloc (.cells M 5)).setRow w.heap.size Y).heap[w.heap.size]? = some (.cells Y 5 (0, 0)) := fun Y => setRow_heap _ _ M _ 5 (0, 0) (heap_alloc_new w _)
  have hb1 : Below w.heap.size w (w.alloc (.cells M 5)) := (Below.refl _ w).alloc (Nat.le_refl _) _
  refine ⟨M, _, fun W => ?_, hlen ▸ hcp, below_setRow hb1 (Nat.le_refl _) _, ?_, ⟨fun j u hu => ?_⟩⟩
  · have hh := run_make (P := Tryd.prog) W 22 5 i0 (.int .u8 0) Tryd.underlying22 hi hz0 .i64 .i64 (n : Int) (n : Int) (by omega) (by omega) (by rw [hz2]; omega) (by omega)
    rw [← hM] at hh
    simpa using hh
  · simp [World.setRow]
  · have hjl : j < n := by rw [← hlen]; exact (List.getElem?_eq_some_iff.1 hu).1
    rw [cell_of_row _ _ j _ 5 (0, 0) (hgY _)]
    simp only [List.take_zero, List.nil_append]
    rw [List.getElem?_toArray, List.getElem?_append_left (by omega)]; exact hu

theorem heldOf {w : World} {base g m n cap : Nat} {bs : List UInt8} {ys : List Value} (h : w.ownsRow base 5 1 (.slice (some ⟨g, 0, none⟩) m cap) m (Lib.byteCells bs ++ ys)) (hn : bs.length = n) (hm : n ≤ m) : Held w g bs :=
  ⟨fun j u hu => by
    have hj : j < (Lib.byteCells bs).length := (List.getElem?_eq_some_iff.1 hu).1
    have hj2 := hj
    rw [Lib.byteCells_length, hn] at hj2
    rw [h.cellAt j (by omega), List.getElem?_append_left hj]; exact hu⟩

/-- ZZescapedUnit at a block that holds six bytes or more, its answer under a name. -/
theorem zz_held (g n cap : Nat) (bs : List UInt8) (r : Int) (te : TypeId) (pe : Value) (w : World) (h : 6 ≤ bs.length) (hl : bs.length ≤ n) (hm : n ≤ 9223372036854775807) (hcap : n ≤ cap)
    (hS : Held w g bs) (hv : w.cell? ⟨0, 0, none⟩ = some (.iface te pe))
    (hr : Hx.esc6 (bs.getD 0 0).toNat (bs.getD 1 0).toNat (bs.getD 2 0).toNat (bs.getD 3 0).toNat (bs.getD 4 0).toNat (bs.getD 5 0).toNat = r) :
    Calls Tryd.prog 6 #[.slice (some ⟨g, 0, none⟩) n cap] w fun e w' => e = .returned (.int .i32 r) ∧ Below w.heap.size w w' := by
  rw [← hr]
  exact zz_long g 0 n cap _ _ _ _ _ _ te pe w (by omega) hm hcap (hS.six h) hv

end Go.Proofs.Qxb6617450aDoor
