/-
  THE PLAIN SIDE OF zzDistinctCount: strings in order; an insertion; the runs of a sorted list.
-/
import GoSem.Op.String
import Derived.Lib.Strings
import Derived.Test.Qxb6618756aPlain
namespace Go.Proofs.Qxb6618756a.Dd

theorem less_irrefl : ∀ x : List UInt8, Op.bytesLess x x = false
  | [] => rfl
  | a :: x => by simp [Op.bytesLess, less_irrefl x]

theorem less_trans : ∀ x y z : List UInt8, Op.bytesLess x y = true → Op.bytesLess y z = true → Op.bytesLess x z = true
  | _, [], _, h, _ => by simp [Op.bytesLess] at h
  | _, _ :: _, [], _, h => by simp [Op.bytesLess] at h
  | [], _ :: _, _ :: _, _, _ => rfl
  | a :: x, b :: y, c :: z, h1, h2 => by
    simp only [Op.bytesLess, Bool.or_eq_true, Bool.and_eq_true, decide_eq_true_eq, beq_iff_eq] at h1 h2 ⊢
    rcases h1 with h1 | ⟨rfl, h1⟩
    · rcases h2 with h2 | ⟨rfl, h2⟩
      · exact .inl (UInt8.lt_trans h1 h2)
      · exact .inl h1
    · rcases h2 with h2 | ⟨rfl, h2⟩
      · exact .inl h2
      · exact .inr ⟨rfl, less_trans x y z h1 h2⟩

theorem less_total : ∀ x y : List UInt8, Op.bytesLess x y = true ∨ x = y ∨ Op.bytesLess y x = true
  | [], [] => .inr (.inl rfl)
  | [], _ :: _ => .inl rfl
  | _ :: _, [] => .inr (.inr rfl)
  | a :: x, b :: y => by
    simp only [Op.bytesLess, Bool.or_eq_true, Bool.and_eq_true, decide_eq_true_eq, beq_iff_eq]
    rcases Nat.lt_trichotomy a.toNat b.toNat with h | h | h
    · exact .inl (.inl (UInt8.lt_iff_toNat_lt.2 h))
    · obtain rfl : a = b := UInt8.toNat_inj.1 h
      rcases less_total x y with h1 | rfl | h1
      · exact .inl (.inr ⟨rfl, h1⟩)
      · exact .inr (.inl rfl)
      · exact .inr (.inr (.inr ⟨rfl, h1⟩))
    · exact .inr (.inr (.inl (UInt8.lt_iff_toNat_lt.2 h)))

theorem toList_eq {a b : ByteArray} (h : a.toList = b.toList) : a = b := by
  rw [Lib.toList_data, Lib.toList_data] at h
  exact ByteArray.ext (Array.toList_inj.1 h)

/-- a stands before b, or is the same: what Go's '>' denies. -/
def le (a b : ByteArray) : Prop := (Op.bytesLess a.toList b.toList || a.toList == b.toList) = true

theorem le_iff (a b : ByteArray) : le a b ↔ Op.bytesLess a.toList b.toList = true ∨ a.toList = b.toList := by
  unfold le; rw [Bool.or_eq_true, beq_iff_eq]
theorem le_trans {a b c : ByteArray} (h1 : le a b) (h2 : le b c) : le a c := by
  rw [le_iff] at *
  rcases h1 with h1 | h1
  · rcases h2 with h2 | h2
    · exact .inl (less_trans _ _ _ h1 h2)
    · exact .inl (h2 ▸ h1)
  · rw [h1]; exact h2
theorem le_antisymm {a b : ByteArray} (h1 : le a b) (h2 : le b a) : a = b := by
  rw [le_iff] at *
  rcases h1 with h1 | h1
  · rcases h2 with h2 | h2
    · have := less_trans _ _ _ h1 h2
      rw [less_irrefl] at this; cases this
    · exact (toList_eq h2).symm
  · exact toList_eq h1
theorem le_of_not {a b : ByteArray} (h : ¬ le a b) : le b a := by
  rw [le_iff] at *
  rcases less_total a.toList b.toList with h1 | h1 | h1
  · exact absurd (.inl h1) h
  · exact absurd (.inr h1) h
  · exact .inl h1

def Sorted (l : List ByteArray) : Prop := l.Pairwise le

/-- An insertion: behind those that are not greater, ahead of those that are. -/
theorem insert_sorted {A B : List ByteArray} {x : ByteArray} (h : Sorted (A ++ B)) (hA : ∀ a, A.getLast? = some a → le a x) (hB : ∀ b ∈ B, ¬ le b x) : Sorted (A ++ x :: B) := by
  unfold Sorted at *
  rw [List.pairwise_append] at h ⊢
  obtain ⟨h1, h2, h3⟩ := h
  have hax : ∀ a ∈ A, le a x := by
    intro a ha
    obtain ⟨l, hl⟩ : ∃ l, A.getLast? = some l := by
      cases hg : A.getLast? with
      | some l => exact ⟨l, rfl⟩
      | none => rw [List.getLast?_eq_none_iff] at hg; subst hg; cases ha
    obtain ⟨A', rfl⟩ := List.getLast?_eq_some_iff.1 hl
    rw [List.mem_append, List.mem_singleton] at ha
    rcases ha with ha | rfl
    · rw [List.pairwise_append] at h1
      exact le_trans (h1.2.2 a ha l (by simp)) (hA l hl)
    · exact hA a hl
  refine ⟨h1, List.Pairwise.cons (fun b hb => le_of_not (hB b hb)) h2, fun a ha b hb => ?_⟩
  rw [List.mem_cons] at hb
  rcases hb with rfl | hb
  · exact hax a ha
  · exact h3 a ha b hb

theorem sorted_get {l : List ByteArray} (h : Sorted l) {i j : Nat} (hij : i < j) (hj : j < l.length) : le (l.getD i ByteArray.empty) (l.getD j ByteArray.empty) := by
  have := List.pairwise_iff_getElem.1 h i j (by omega) hj hij
  simpa [List.getD, List.getElem?_eq_getElem hj, List.getElem?_eq_getElem (show i < l.length by omega)] using this

/-- Nothing is there but what has been met. -/
theorem of_mem_ddTo (ss : List ByteArray) : ∀ k, k ≤ ss.length → ∀ x, x ∈ ddTo ss k → ∃ j, j < k ∧ ss.getD j ByteArray.empty = x
  | 0, _, x, h => by rw [ddTo_zero] at h; cases h
  | k + 1, h, x, hx => by
    by_cases hm : ss.getD k ByteArray.empty ∈ ddTo ss k
    · rw [ddTo_hit ss k (by omega) hm] at hx
      obtain ⟨j, hj, e⟩ := of_mem_ddTo ss k (by omega) x hx
      exact ⟨j, by omega, e⟩
    · rw [ddTo_miss ss k (by omega) hm, List.mem_append, List.mem_singleton] at hx
      rcases hx with hx | rfl
      · obtain ⟨j, hj, e⟩ := of_mem_ddTo ss k (by omega) x hx
        exact ⟨j, by omega, e⟩
      · exact ⟨k, by omega, rfl⟩

/-- In a sorted list a string is new just where it is not its forerunner. -/
theorem new_iff {l : List ByteArray} (h : Sorted l) (k : Nat) (hk : k + 1 < l.length) : l.getD (k + 1) ByteArray.empty ∈ ddTo l (k + 1) ↔ l.getD (k + 1) ByteArray.empty = l.getD k ByteArray.empty := by
  constructor
  · intro hm
    obtain ⟨j, hj, e⟩ := of_mem_ddTo l (k + 1) (by omega) _ hm
    by_cases ejk : j = k
    · rw [← e, ejk]
    · have h1 := sorted_get h (show j < k by omega) (by omega)
      have h2 := sorted_get h (show k < k + 1 by omega) hk
      rw [e] at h1
      exact le_antisymm h1 h2
  · intro e
    rw [e]; exact mem_ddTo l (k + 1) (by omega) k (by omega)

theorem mem_dd (ss : List ByteArray) (x : ByteArray) : x ∈ dd ss ↔ x ∈ ss := by
  rw [← ddTo_all]
  constructor
  · intro h
    obtain ⟨j, hj, e⟩ := of_mem_ddTo ss _ (Nat.le_refl _) x h
    rw [← e]
    simp only [List.getD, List.getElem?_eq_getElem hj, Option.getD_some]
    exact List.getElem_mem hj
  · intro h
    obtain ⟨j, hj, e⟩ := List.getElem_of_mem h
    have := mem_ddTo ss _ (Nat.le_refl _) j hj
    simp only [List.getD, List.getElem?_eq_getElem hj, Option.getD_some] at this
    rw [← e]; exact this

theorem nodup_dd (ss : List ByteArray) : (dd ss).Nodup := by
  rw [List.nodup_iff_pairwise_ne, List.pairwise_iff_getElem]
  intro i j hi hj hij
  have := dd_ne ss i j hij hj
  simpa [List.getD, List.getElem?_eq_getElem hj, List.getElem?_eq_getElem hi] using this

theorem length_le : ∀ (l m : List ByteArray), l.Nodup → (∀ x ∈ l, x ∈ m) → l.length ≤ m.length
  | [], _, _, _ => Nat.zero_le _
  | a :: l, m, hn, hs => by
    obtain ⟨s, t, rfl⟩ := List.append_of_mem (hs a (by simp))
    rw [List.nodup_cons] at hn
    have := length_le l (s ++ t) hn.2 (fun x hx => by
      have hm := hs x (by simp [hx])
      rw [List.mem_append, List.mem_cons] at hm
      rw [List.mem_append]
      rcases hm with hm | rfl | hm
      · exact .inl hm
      · exact absurd hx hn.1
      · exact .inr hm)
    simp only [List.length_cons, List.length_append] at this ⊢
    omega

/-- As many distinct strings where the strings are the same. -/
theorem dd_length {l m : List ByteArray} (h : ∀ x, x ∈ l ↔ x ∈ m) : (dd l).length = (dd m).length :=
  Nat.le_antisymm
    (length_le _ _ (nodup_dd l) (fun x hx => (mem_dd m x).2 ((h x).1 ((mem_dd l x).1 hx))))
    (length_le _ _ (nodup_dd m) (fun x hx => (mem_dd l x).2 ((h x).2 ((mem_dd m x).1 hx))))

end Go.Proofs.Qxb6618756a.Dd
