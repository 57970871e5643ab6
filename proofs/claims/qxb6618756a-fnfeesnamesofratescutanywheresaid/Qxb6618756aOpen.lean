/-
  A slice of strings that came in, as its strings.
-/
import Derived.Test.Qxb6618756aWalkF
import Derived.ProofKit
import Derived.OpenShut
import Derived.ShutString
import Derived.ChangeOld
namespace Go.Proofs.Qxb6618756a
open Go.ChangeShapes Go.WideShapes Go.ChangeAt Go.RowKit

theorem own : ownKnob Try.prog.godebug = none := by kernel_rfl
theorem laidOut : laidOutB Try.prog = true := by kernel_rfl
theorem cells9 : Try.prog.cellsOf 9 = 1 := by kernel_rfl

theorem strs_at {w : World} {a : Addr} {ss : List ByteArray} (h : ∀ i, i < ss.length → w.cell? (a.add i) = some (.string (ss.getD i ByteArray.empty))) (hp : 0 < ss.length) :
    ∃ b off, a = ⟨b, off, none⟩ ∧ ∀ j, j < ss.length → w.cell? ⟨b, off + j, none⟩ = some (.string (ss.getD j ByteArray.empty)) := by
  obtain ⟨b, off, spot⟩ := a
  have hspot : spot = none := by simpa [Addr.add] using World.cell?_spot (h 0 hp)
  subst hspot
  exact ⟨b, off, rfl, fun j hj => by rw [← Go.WideShapes.add_plain]; exact h j hj⟩

/-- What the walk is told of a slice of strings that came in. -/
theorem open_row {H : Type} {enc : TypeId × Value → H} {W : World} {base : Nat} {held : Bool} {fuel : Nat} {a0 : Option Addr} {len cap : Nat} {x : DataW H × List MemPlace}
    (hf : DataW.trod enc Try.prog W base (fun _ => true) held fuel 22 (Value.slice a0 len cap).cells.toList = some x) :
    ∃ ss, SRow W a0 len ss ∧ len ≤ 9223372036854775807 ∧ Small 9223372036854775807 ss := by
  rcases open_strings Try.underlying22 Try.underlying9 cells9 hf with ⟨hcs, _⟩ | ⟨a, l, c, ss, hcs, _, hl, hm, hz, _, hcell, hws⟩
  · simp [Value.cells] at hcs
    obtain ⟨rfl, rfl, rfl⟩ := hcs
    exact ⟨[], ⟨rfl, .inl rfl⟩, by omega, fun j hj => by simp at hj⟩
  · simp [Value.cells] at hcs
    obtain ⟨rfl, rfl, rfl⟩ := hcs
    have hz' : ss.length = cap := by simpa using hz
    unfold maxLen at hm hws
    have hg : ∀ j, j < len → (ss.take len).getD j ByteArray.empty = ss.getD j ByteArray.empty := fun j hj => by simp [List.getD, hj]
    refine ⟨ss.take len, ⟨by rw [List.length_take]; omega, ?_⟩, by omega, fun j hj => ?_⟩
    · by_cases h0 : len = 0
      · exact .inl h0
      · obtain ⟨b, off, rfl, hc⟩ := strs_at hcell (by omega)
        exact .inr ⟨b, off, rfl, fun j hj => by rw [hg j hj]; exact hc j (by omega)⟩
    · have hj2 : j < len := by rw [List.length_take] at hj; omega
      rw [hg j hj2]
      have hjs : j < ss.length := by omega
      have e : ss.getD j ByteArray.empty = ss[j] := by simp [List.getD, List.getElem?_eq_getElem hjs]
      rw [e]; exact hws _ (List.getElem_mem hjs)

end Go.Proofs.Qxb6618756a
