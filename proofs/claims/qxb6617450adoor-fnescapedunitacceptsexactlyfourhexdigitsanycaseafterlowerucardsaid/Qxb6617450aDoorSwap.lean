/-
  THE PLAIN SIDE OF THE SECOND LAW: the other case of a letter is the same digit; six bytes as a list; what the first loop gathers.
-/
import Derived.Test.Qxb6617450aDoorPlain
namespace Go.Proofs.Qxb6617450aDoor.Hx

/-- The other case. -/
def swv (c : Int) : Int := if 97 ≤ c ∧ c ≤ 122 then c - 32 else if 65 ≤ c ∧ c ≤ 90 then c + 32 else c
def sw (u : UInt8) : UInt8 := UInt8.ofNat (swv u.toNat).toNat

theorem swv_bd (c : Int) (h0 : 0 ≤ c) (h1 : c ≤ 255) : 0 ≤ swv c ∧ swv c ≤ 255 := by
  unfold swv; split
  · omega
  · split <;> omega

theorem sw_toNat (u : UInt8) : ((sw u).toNat : Int) = swv u.toNat := by
  have hu := u.toNat_lt
  have hb := swv_bd u.toNat (by omega) (by omega)
  unfold sw
  rw [UInt8.toNat_ofNat_of_lt' (by show _ < 256; omega)]
  omega

theorem hexv_swv (c : Int) : hexv (swv c) = hexv c := by
  unfold swv
  by_cases h1 : 97 ≤ c ∧ c ≤ 122
  · rw [if_pos h1]
    unfold hexv
    by_cases h2 : c ≤ 102
    · rw [if_neg (by omega), if_neg (by omega), if_pos (by omega), if_neg (by omega), if_pos (by omega)]; omega
    · rw [if_neg (by omega), if_neg (by omega), if_neg (by omega), if_neg (by omega), if_neg (by omega), if_neg (by omega)]
  · rw [if_neg h1]
    by_cases h2 : 65 ≤ c ∧ c ≤ 90
    · rw [if_pos h2]
      unfold hexv
      by_cases h3 : c ≤ 70
      · rw [if_neg (by omega), if_pos (by omega), if_neg (by omega), if_neg (by omega), if_pos (by omega)]; omega
      · rw [if_neg (by omega), if_neg (by omega), if_neg (by omega), if_neg (by omega), if_neg (by omega), if_neg (by omega)]
    · rw [if_neg h2]

theorem esc6_sw (u0 u1 : Int) (a b c d : UInt8) : esc6 u0 u1 (sw a).toNat (sw b).toNat (sw c).toNat (sw d).toNat = esc6 u0 u1 a.toNat b.toNat c.toNat d.toNat := by
  unfold esc6 esc4
  simp only [sw_toNat, hexv_swv]

/-- Six bytes. -/
def six (f : Nat → UInt8) : List UInt8 := [f 0, f 1, f 2, f 3, f 4, f 5]
theorem six_set (f : Nat → UInt8) (k : Nat) (v : UInt8) (h : k < 6) : (six f).set k v = six fun j => if j = k then v else f j := by
  rcases (show k = 0 ∨ k = 1 ∨ k = 2 ∨ k = 3 ∨ k = 4 ∨ k = 5 by omega) with rfl | rfl | rfl | rfl | rfl | rfl <;> simp [six]
theorem six_congr (f g : Nat → UInt8) (h : ∀ j, f j = g j) : six f = six g := by simp only [six, h]

def cp (bs : List UInt8) (k : Nat) (j : Nat) : UInt8 := if j < k then bs.getD j 0 else 0
def cs (bs : List UInt8) (k : Nat) (j : Nat) : UInt8 := if 2 ≤ j ∧ j < k then sw (bs.getD j 0) else cp bs 6 j

theorem cp_set (bs : List UInt8) (k : Nat) (h : k < 6) : (six (cp bs k)).set k (bs.getD k 0) = six (cp bs (k + 1)) := by
  rw [six_set _ _ _ h]
  refine six_congr _ _ fun j => ?_
  unfold cp
  by_cases e : j = k
  · subst e; rw [if_pos rfl, if_pos (by omega)]
  · rw [if_neg e]
    by_cases e2 : j < k
    · rw [if_pos e2, if_pos (by omega)]
    · rw [if_neg e2, if_neg (by omega)]
theorem cs_set (bs : List UInt8) (k : Nat) (h2 : 2 ≤ k) (h : k < 6) : (six (cs bs k)).set k (sw (bs.getD k 0)) = six (cs bs (k + 1)) := by
  rw [six_set _ _ _ h]
  refine six_congr _ _ fun j => ?_
  unfold cs
  by_cases e : j = k
  · subst e; rw [if_pos rfl, if_pos (by omega)]
  · rw [if_neg e]
    by_cases e2 : 2 ≤ j ∧ j < k
    · rw [if_pos e2, if_pos (by omega)]
    · rw [if_neg e2, if_neg (by omega)]
theorem cp0 (bs : List UInt8) : six (cp bs 0) = [0, 0, 0, 0, 0, 0] := rfl
theorem cs2 (bs : List UInt8) : six (cs bs 2) = six (cp bs 6) := six_congr _ _ fun j => by unfold cs; rw [if_neg (by omega)]
theorem cs6 (bs : List UInt8) : six (cs bs 6) = [bs.getD 0 0, bs.getD 1 0, sw (bs.getD 2 0), sw (bs.getD 3 0), sw (bs.getD 4 0), sw (bs.getD 5 0)] := rfl
theorem cp6 (bs : List UInt8) : six (cp bs 6) = [bs.getD 0 0, bs.getD 1 0, bs.getD 2 0, bs.getD 3 0, bs.getD 4 0, bs.getD 5 0] := rfl

theorem esc4_pos (bs : List UInt8) : 0 ≤ esc4 (bs.getD 2 0).toNat (bs.getD 3 0).toNat (bs.getD 4 0).toNat (bs.getD 5 0).toNat ↔ allTo bs 4 = true := by
  constructor
  · intro h
    cases ha : allTo bs 4 with
    | true => rfl
    | false => rw [none4 bs ha] at h; omega
  · intro h
    rw [all4 bs h]; exact (wantTo_bd bs 4).1

/-- A capital U: no escape. -/
theorem esc6_cap (bs : List UInt8) : esc6 ((((six (cp bs 6)).set 1 85).getD 0 0).toNat) ((((six (cp bs 6)).set 1 85).getD 1 0).toNat) ((((six (cp bs 6)).set 1 85).getD 2 0).toNat) ((((six (cp bs 6)).set 1 85).getD 3 0).toNat) ((((six (cp bs 6)).set 1 85).getD 4 0).toNat) ((((six (cp bs 6)).set 1 85).getD 5 0).toNat) = -1 := by
  have h1 : (((six (cp bs 6)).set 1 85).getD 1 0).toNat = 85 := rfl
  unfold esc6
  rw [if_neg (by rw [h1]; omega)]

end Go.Proofs.Qxb6617450aDoor.Hx
