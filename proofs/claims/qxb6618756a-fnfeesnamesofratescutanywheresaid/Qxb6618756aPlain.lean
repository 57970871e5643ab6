/-
  THE PLAIN SIDE: the distinct strings of a list, in the order in which each is first met.
-/
namespace Go.Proofs.Qxb6618756a.Dd

def has (acc : List ByteArray) (s : ByteArray) : Bool := acc.any fun a => a.data == s.data
theorem has_iff (acc : List ByteArray) (s : ByteArray) : has acc s = true ↔ s ∈ acc := by
  unfold has
  rw [List.any_eq_true]
  constructor
  · rintro ⟨a, ha, e⟩
    rw [← ByteArray.ext (eq_of_beq e)]; exact ha
  · intro h
    exact ⟨s, h, beq_self_eq_true _⟩
def ddStep (acc : List ByteArray) (s : ByteArray) : List ByteArray := if has acc s = true then acc else acc ++ [s]
/-- Of the first k strings. -/
def ddTo (ss : List ByteArray) (k : Nat) : List ByteArray := (ss.take k).foldl ddStep []
def dd (ss : List ByteArray) : List ByteArray := ss.foldl ddStep []

theorem ddTo_all (ss : List ByteArray) : ddTo ss ss.length = dd ss := by unfold ddTo dd; rw [List.take_length]
theorem ddTo_zero (ss : List ByteArray) : ddTo ss 0 = [] := by unfold ddTo; rw [List.take_zero]; rfl
theorem ddTo_succ (ss : List ByteArray) (k : Nat) (h : k < ss.length) : ddTo ss (k + 1) = ddStep (ddTo ss k) (ss.getD k ByteArray.empty) := by
  unfold ddTo
  rw [List.take_succ_eq_append_getElem h, List.foldl_append]
  simp [List.getD, List.getElem?_eq_getElem h]

theorem ddTo_len (ss : List ByteArray) : ∀ k, k ≤ ss.length → (ddTo ss k).length ≤ k
  | 0, _ => by rw [ddTo_zero]; exact Nat.le_refl _
  | k + 1, h => by
    have ih := ddTo_len ss k (by omega)
    rw [ddTo_succ ss k (by omega)]
    unfold ddStep
    split
    · omega
    · rw [List.length_append]; simp; omega

theorem ddTo_hit (ss : List ByteArray) (k : Nat) (h : k < ss.length) (hm : ss.getD k ByteArray.empty ∈ ddTo ss k) : ddTo ss (k + 1) = ddTo ss k := by
  rw [ddTo_succ ss k h]; unfold ddStep; rw [if_pos ((has_iff _ _).2 hm)]
theorem ddTo_miss (ss : List ByteArray) (k : Nat) (h : k < ss.length) (hm : ss.getD k ByteArray.empty ∉ ddTo ss k) : ddTo ss (k + 1) = ddTo ss k ++ [ss.getD k ByteArray.empty] := by
  rw [ddTo_succ ss k h]; unfold ddStep; rw [if_neg (fun h => hm ((has_iff _ _).1 h))]

/-- What has been met is there. -/
theorem mem_ddTo (ss : List ByteArray) : ∀ k, k ≤ ss.length → ∀ j, j < k → ss.getD j ByteArray.empty ∈ ddTo ss k
  | 0, _, j, hj => by omega
  | k + 1, h, j, hj => by
    by_cases hm : ss.getD k ByteArray.empty ∈ ddTo ss k
    · rw [ddTo_hit ss k (by omega) hm]
      by_cases e : j = k
      · subst e; exact hm
      · exact mem_ddTo ss k (by omega) j (by omega)
    · rw [ddTo_miss ss k (by omega) hm]
      by_cases e : j = k
      · subst e; simp
      · exact List.mem_append_left _ (mem_ddTo ss k (by omega) j (by omega))

theorem getD_app_left {a b : List ByteArray} {i : Nat} (h : i < a.length) : (a ++ b).getD i ByteArray.empty = a.getD i ByteArray.empty := by
  simp [List.getD, List.getElem?_append_left h]
theorem getD_app_last (a : List ByteArray) (x : ByteArray) : (a ++ [x]).getD a.length ByteArray.empty = x := by
  simp [List.getD]

/-- Each stands where it was first met; the places rise. -/
theorem places (ss : List ByteArray) : ∀ k, k ≤ ss.length → ∃ f : Nat → Nat,
    (∀ i, i < (ddTo ss k).length → f i < k ∧ ss.getD (f i) ByteArray.empty = (ddTo ss k).getD i ByteArray.empty ∧ ∀ j, j < f i → ss.getD j ByteArray.empty ≠ (ddTo ss k).getD i ByteArray.empty) ∧
    ∀ i j, i < j → j < (ddTo ss k).length → f i < f j
  | 0, _ => ⟨fun _ => 0, fun i hi => by rw [ddTo_zero] at hi; simp at hi, fun i j _ hj => by rw [ddTo_zero] at hj; simp at hj⟩
  | k + 1, h => by
    obtain ⟨f, hf, hr⟩ := places ss k (by omega)
    by_cases hm : ss.getD k ByteArray.empty ∈ ddTo ss k
    · rw [ddTo_hit ss k (by omega) hm]
      exact ⟨f, fun i hi => ⟨by have := (hf i hi).1; omega, (hf i hi).2⟩, hr⟩
    · rw [ddTo_miss ss k (by omega) hm]
      refine ⟨fun i => if i < (ddTo ss k).length then f i else k, fun i hi => ?_, fun i j hij hj => ?_⟩
      · rw [List.length_append, List.length_singleton] at hi
        by_cases hi2 : i < (ddTo ss k).length
        · simp only [if_pos hi2, getD_app_left hi2]
          exact ⟨by have := (hf i hi2).1; omega, (hf i hi2).2⟩
        · obtain rfl : i = (ddTo ss k).length := by omega
          simp only [if_neg hi2, getD_app_last]
          refine ⟨by omega, trivial, fun j hj e => hm ?_⟩
          rw [← e]; exact mem_ddTo ss k (by omega) j hj
      · rw [List.length_append, List.length_singleton] at hj
        by_cases hj2 : j < (ddTo ss k).length
        · simp only [if_pos hj2, if_pos (Nat.lt_trans hij hj2)]
          exact hr i j hij hj2
        · have hi2 : i < (ddTo ss k).length := by omega
          simp only [if_neg hj2, if_pos hi2]
          exact (hf i hi2).1

/-- None twice. -/
theorem dd_ne (ss : List ByteArray) (i j : Nat) (hij : i < j) (hj : j < (dd ss).length) : (dd ss).getD i ByteArray.empty ≠ (dd ss).getD j ByteArray.empty := by
  rw [← ddTo_all] at hj ⊢
  obtain ⟨f, hf, hr⟩ := places ss ss.length (Nat.le_refl _)
  have h1 := hf i (by omega)
  have h2 := hf j hj
  intro e
  exact h2.2.2 (f i) (hr i j hij hj) (h1.2.1.trans e)

end Go.Proofs.Qxb6618756a.Dd
