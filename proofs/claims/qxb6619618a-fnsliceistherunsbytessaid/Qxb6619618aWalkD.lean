/-
  FnSliceIsTheRunsBytes.
-/
import Derived.Test.Qxb6619618aWalkC
import Derived.Laws.CopyOwn
namespace Go.Proofs.Qxb6619618a
open Go.RowKit

theorem Try.info3 : (Try.prog.info? 3).map (fun i => (i.zero, i.size, i.bytes)) = some (some (.int .i64 0), 1, 8) := by kernel_rfl

set_option maxHeartbeats 400000 in
theorem zzPieces_any (p q : Option Addr) (n c m d : Nat) (w : World) :
    Calls Try.prog 10 #[.slice p n c, .slice q m d] w fun e w' => e = .returned (.agg #[.slice p n c, .slice q m d]) ∧ Below w.heap.size w w' := by
  go_enter Try.func10, Try.ntmps10
  go_wp2
  exact bodyPost_ret (v := .agg #[.slice p n c, .slice q m d]) (by simp [results, Try.results10, go_sem]) rfl ⟨rfl, (Below.refl _ _).alloc (Nat.le_refl _) _⟩

def intCells (es : List Int) : List Value := es.map (Value.int .i64)
theorem intCells_get (es : List Int) (j : Nat) (h : j < es.length) : (intCells es)[j]? = some (.int .i64 (es.getD j 0)) := by
  simp [intCells, List.getD, List.getElem?_eq_getElem h]

/-- The ints that came in, at whatever address. -/
def IRow (w : World) (p : Option Addr) (n cap : Nat) (es : List Int) : Prop :=
  es.length = n ∧ n ≤ cap ∧ (p = none → n = 0 ∧ cap = 0) ∧ ∀ ad, p = some ad → ∀ j u, (intCells es)[j]? = some u → w.cell? (ad.add j) = some u

/-- 'zzc := make([]int, len(ends)); copy(zzc, ends)': the new block holds the numbers. -/
theorem copied (w : World) (ad : Addr) (n cap : Nat) (es : List Int) (h : IRow w (some ad) n cap es) (hn : n ≤ 1048576) :
    ∃ (M : Array Value) (W1 : World),
      (∀ W : World, (Instr.makeSlice 23 (.int .i64 (n : Int)) (.int .i64 (n : Int))).run Try.prog W = .ok (.slice (some ⟨W.heap.size, 0, none⟩) n n) (W.alloc (.cells M 3))) ∧
      (Builtin.copy_ #[23, 23] 3 #[.slice (some ⟨w.heap.size, 0, none⟩) n n, .slice (some ad) n cap]).run Try.prog (w.alloc (.cells M 3)) = .ok (.int .i64 (n : Int)) W1 ∧
      Below w.heap.size w W1 ∧ EV W1 (some ⟨w.heap.size, 0, none⟩) n es := by
  obtain ⟨i0, hi, hz0, hz1, hz2⟩ := info_parts Try.info3
  have hinfo : (Try.prog.info? 3).map (·.size) = some 1 := by rw [hi]; simp [hz1]
  obtain ⟨M, hM⟩ : ∃ M, M = madeCells (Value.int .i64 0).cells ((n : Int).toNat * i0.size) := ⟨_, rfl⟩
  have hMs : M.size = n := by rw [hM, size_madeCells, hz1]; simp
  have hlen : (intCells es).length = n := by rw [intCells, List.length_map, h.1]
  have hcp := run_copy_row (P := Try.prog) (w.alloc (.cells M 3)) 23 23 3 3 w.heap.size 0 n n ad n cap M 3 (intCells es) Try.underlying23 hinfo (heap_alloc_new w _) (by rw [hlen]; exact (Nat.min_self n).symm)
    (fun j v hv => by
      have hc := h.2.2.2 ad rfl j v hv
      exact (((Below.refl w.heap.size w).alloc (Nat.le_refl _) _).cell (Lib.lt_of_cell hc)).trans hc) (by omega) (fun v hv => by
        obtain ⟨z, _, rfl⟩ := List.mem_map.1 hv; rfl)
  have hgY : ∀ Y, ((w.alloc (.cells M 3)).setRow w.heap.size Y).heap[w.heap.size]? = some (.cells Y 3 (0, 0)) := fun Y => setRow_heap _ _ M _ 3 (0, 0) (heap_alloc_new w _)
  have hb1 : Below w.heap.size w (w.alloc (.cells M 3)) := (Below.refl _ w).alloc (Nat.le_refl _) _
  refine ⟨M, _, fun W => ?_, hlen ▸ hcp, below_setRow hb1 (Nat.le_refl _) _, h.1, .inr ⟨w.heap.size, 0, rfl, fun j hj => ?_⟩⟩
  · have hh := run_make (P := Try.prog) W 23 3 i0 (.int .i64 0) Try.underlying23 hi hz0 .i64 .i64 (n : Int) (n : Int) (by omega) (by omega) (by rw [hz2]; omega) (by omega)
    rw [← hM] at hh
    simpa using hh
  · rw [show 0 + j = j from Nat.zero_add j, cell_of_row _ _ j _ 3 (0, 0) (hgY _)]
    simp only [List.take_zero, List.nil_append]
    rw [List.getElem?_toArray, List.getElem?_append_left (by omega)]
    exact intCells_get es j (by rw [h.1]; exact hj)

def LawPost (w : World) (e : Ending) (w' : World) : Prop := e = .returned (.bool true) ∧ Below w.heap.size w w'
theorem LawPost.mk {w w' : World} (h : Below w.heap.size w w') : LawPost w (.returned (.bool true)) w' := ⟨rfl, h⟩

theorem runLen_wf {ps : List Pc} {es : List Int} {n : Nat} (h : WF ps es) (hn : ps.length = n) (h0 : 0 < n) : es.getD (n - 1) 0 = (pre ps n : Nat) := by
  have := (h.2 (n - 1) (by omega)).2
  rw [this, show n - 1 + 1 = n by omega]

end Go.Proofs.Qxb6619618a
