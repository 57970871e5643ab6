/-
  THE PLAIN SIDE OF THE CUT: the distinct strings of a list cut in two.
-/
import Derived.Test.Qxb6618756aSort
namespace Go.Proofs.Qxb6618756a.Dd

theorem has_false {acc : List ByteArray} {s : ByteArray} : has acc s = false ↔ s ∉ acc := by
  rw [← has_iff]; cases has acc s <;> simp

theorem cut_step (acc D : List ByteArray) (s : ByteArray) :
    ddStep (acc ++ D.filter fun x => !has acc x) s = acc ++ (ddStep D s).filter fun x => !has acc x := by
  have hin : s ∈ (acc ++ D.filter fun x => !has acc x) ↔ s ∈ acc ∨ s ∈ D := by
    rw [List.mem_append, List.mem_filter]
    constructor
    · rintro (h | ⟨h, _⟩)
      · exact .inl h
      · exact .inr h
    · rintro (h | h)
      · exact .inl h
      · by_cases ha : s ∈ acc
        · exact .inl ha
        · exact .inr ⟨h, by rw [has_false.2 ha]; rfl⟩
  unfold ddStep
  by_cases hD : s ∈ D
  · rw [if_pos ((has_iff _ _).2 (hin.2 (.inr hD))), if_pos ((has_iff _ _).2 hD)]
  · rw [if_neg (fun h => hD ((has_iff _ _).1 h))]
    rw [List.filter_append]
    by_cases ha : s ∈ acc
    · rw [if_pos ((has_iff _ _).2 (hin.2 (.inl ha)))]
      have e : ([s].filter fun x => !has acc x) = [] := by simp [(has_iff _ _).2 ha]
      rw [e, List.append_nil]
    · rw [if_neg (fun h => (hin.1 ((has_iff _ _).1 h)).elim ha hD)]
      have e : ([s].filter fun x => !has acc x) = [s] := by simp [has_false.2 ha]
      rw [e, List.append_assoc]

theorem cut_to (acc : List ByteArray) : ∀ B D : List ByteArray, B.foldl ddStep (acc ++ D.filter fun x => !has acc x) = acc ++ (B.foldl ddStep D).filter fun x => !has acc x
  | [], _ => rfl
  | s :: B, D => by
    rw [List.foldl_cons, List.foldl_cons, cut_step, cut_to acc B (ddStep D s)]

/-- The distinct strings of the whole: those of the front, then those of the back that the front lacks. -/
theorem dd_cut (ss : List ByteArray) (k : Nat) : dd ss = dd (ss.take k) ++ (dd (ss.drop k)).filter fun x => !has (dd (ss.take k)) x := by
  have h := cut_to (dd (ss.take k)) (ss.drop k) []
  rw [List.filter_nil, List.append_nil] at h
  have e : dd ss = (ss.drop k).foldl ddStep (dd (ss.take k)) := by
    unfold dd
    rw [← List.foldl_append, List.take_append_drop]
  rw [e, h]; rfl

/-- What the law's own loop has gathered behind i of the back's names. -/
def gath (F B : List ByteArray) (i : Nat) : List ByteArray := F ++ (B.take i).filter fun x => !has F x

theorem gath_zero (F B : List ByteArray) : gath F B 0 = F := by simp [gath]
theorem gath_all (F B : List ByteArray) {n : Nat} (h : B.length = n) : gath F B n = F ++ B.filter fun x => !has F x := by subst h; simp [gath]
theorem gath_hit (F B : List ByteArray) (i : Nat) (hi : i < B.length) (h : B.getD i ByteArray.empty ∈ F) : gath F B (i + 1) = gath F B i := by
  unfold gath
  have hg : B.getD i ByteArray.empty = B[i] := by simp [List.getD, List.getElem?_eq_getElem hi]
  rw [hg] at h
  have e : ([B[i]].filter fun x => !has F x) = [] := by simp [(has_iff _ _).2 h]
  rw [List.take_succ_eq_append_getElem hi, List.filter_append, e, List.append_nil]
theorem gath_miss (F B : List ByteArray) (i : Nat) (hi : i < B.length) (h : B.getD i ByteArray.empty ∉ F) : gath F B (i + 1) = gath F B i ++ [B.getD i ByteArray.empty] := by
  unfold gath
  have hg : B.getD i ByteArray.empty = B[i] := by simp [List.getD, List.getElem?_eq_getElem hi]
  rw [hg] at h ⊢
  have e : ([B[i]].filter fun x => !has F x) = [B[i]] := by simp [has_false.2 h]
  rw [List.take_succ_eq_append_getElem hi, List.filter_append, e, List.append_assoc]
theorem gath_len (F B : List ByteArray) (i : Nat) : (gath F B i).length ≤ F.length + i := by
  unfold gath
  have h1 := List.length_filter_le (fun x => !has F x) (B.take i)
  have h2 := List.length_take_le i B
  rw [List.length_append]; omega
theorem dd_len (ss : List ByteArray) : (dd ss).length ≤ ss.length := by rw [← ddTo_all]; exact ddTo_len ss _ (Nat.le_refl _)

end Go.Proofs.Qxb6618756a.Dd
