/-
  THE PLAIN SIDE: what a hexadecimal digit is worth, what four of them are worth. No Go in sight.
-/
namespace Go.Proofs.Qxb6617450aDoor.Hx

/-- The value of the byte c as a hexadecimal digit, or -1. -/
def hexv (c : Int) : Int :=
  if 48 ≤ c ∧ c ≤ 57 then c - 48 else if 97 ≤ c ∧ c ≤ 102 then c - 87 else if 65 ≤ c ∧ c ≤ 70 then c - 55 else -1

theorem hexv_bd (c : Int) : -1 ≤ hexv c ∧ hexv c ≤ 15 := by
  unfold hexv; split
  · omega
  · split
    · omega
    · split <;> omega

/-- The value of a run of digits behind acc; none where one is no digit. -/
def hexRun : Int → List UInt8 → Option Int
  | acc, [] => some acc
  | acc, c :: cs => if hexv (c.toNat : Int) < 0 then none else hexRun (acc * 16 + hexv (c.toNat : Int)) cs

/-- What four bytes are worth: -1 where one is no digit. -/
def esc4 (a b c d : Int) : Int :=
  if hexv a < 0 ∨ hexv b < 0 ∨ hexv c < 0 ∨ hexv d < 0 then -1 else ((hexv a * 16 + hexv b) * 16 + hexv c) * 16 + hexv d

theorem hexRun4 (a b c d : UInt8) : (hexRun 0 [a, b, c, d]).getD (-1) = esc4 a.toNat b.toNat c.toNat d.toNat := by
  unfold esc4
  by_cases h1 : hexv (a.toNat : Int) < 0
  · simp [hexRun, h1]
  by_cases h2 : hexv (b.toNat : Int) < 0
  · simp [hexRun, h1, h2]
  by_cases h3 : hexv (c.toNat : Int) < 0
  · simp [hexRun, h1, h2, h3]
  by_cases h4 : hexv (d.toNat : Int) < 0
  · simp [hexRun, h1, h2, h3, h4]
  · simp [hexRun, h1, h2, h3, h4]

theorem esc4_bd (a b c d : Int) : -1 ≤ esc4 a b c d ∧ esc4 a b c d ≤ 65535 := by
  have := hexv_bd a; have := hexv_bd b; have := hexv_bd c; have := hexv_bd d
  unfold esc4; split <;> omega

theorem hexRun_pos : ∀ (l : List UInt8) (a n : Int), 0 ≤ a → hexRun a l = some n → 0 ≤ n
  | [], a, n, h0, h => by simp only [hexRun, Option.some.injEq] at h; omega
  | c :: cs, a, n, h0, h => by
    simp only [hexRun] at h
    by_cases hc : hexv (c.toNat : Int) < 0
    · rw [if_pos hc] at h; cases h
    · rw [if_neg hc] at h; exact hexRun_pos cs _ n (by omega) h

/-- What six bytes are worth as an escape: -1 where they are none. -/
def esc6 (u0 u1 a b c d : Int) : Int := if u0 = 92 ∧ u1 = 117 then esc4 a b c d else -1

theorem esc6_bd (u0 u1 a b c d : Int) : -1 ≤ esc6 u0 u1 a b c d ∧ esc6 u0 u1 a b c d ≤ 65535 := by
  have := esc4_bd a b c d
  unfold esc6; split <;> omega

/-- The escape of one digit. -/
theorem esc6_one (c : Int) : esc6 92 117 48 48 48 c = hexv c := by
  have := hexv_bd c
  have h0 : hexv 48 = 0 := by decide
  unfold esc6 esc4
  rw [if_pos ⟨rfl, rfl⟩, h0]
  split <;> omega

/-- The place value of the digits among bs[2] .. bs[n+1], those that are none passed over; and whether all were digits. -/
def wantTo (bs : List UInt8) : Nat → Int
  | 0 => 0
  | n + 1 => if hexv ((bs.getD (n + 2) 0).toNat : Int) < 0 then wantTo bs n else wantTo bs n * 16 + hexv ((bs.getD (n + 2) 0).toNat : Int)
def allTo (bs : List UInt8) : Nat → Bool
  | 0 => true
  | n + 1 => if hexv ((bs.getD (n + 2) 0).toNat : Int) < 0 then false else allTo bs n

theorem wantTo_bd (bs : List UInt8) : ∀ n, 0 ≤ wantTo bs n ∧ wantTo bs n + 1 ≤ (16 : Int) ^ n
  | 0 => by simp [wantTo]
  | n + 1 => by
    have ih := wantTo_bd bs n
    have hb := hexv_bd ((bs.getD (n + 2) 0).toNat : Int)
    simp only [wantTo, Int.pow_succ]
    split <;> omega

theorem wantTo_le (bs : List UInt8) (n : Nat) (h : n < 4) : 0 ≤ wantTo bs n ∧ wantTo bs n ≤ 4095 := by
  have hb := wantTo_bd bs n
  rcases (show n = 0 ∨ n = 1 ∨ n = 2 ∨ n = 3 by omega) with rfl | rfl | rfl | rfl <;> simp at hb <;> omega

theorem plain4 (d2 d3 d4 d5 : Int) (h : (if d5 < 0 then false else if d4 < 0 then false else if d3 < 0 then false else if d2 < 0 then false else true) = true) :
    (if d2 < 0 ∨ d3 < 0 ∨ d4 < 0 ∨ d5 < 0 then -1 else ((d2 * 16 + d3) * 16 + d4) * 16 + d5) =
      (if d5 < 0 then (if d4 < 0 then (if d3 < 0 then (if d2 < 0 then 0 else 0 * 16 + d2) else (if d2 < 0 then 0 else 0 * 16 + d2) * 16 + d3) else (if d3 < 0 then (if d2 < 0 then 0 else 0 * 16 + d2) else (if d2 < 0 then 0 else 0 * 16 + d2) * 16 + d3) * 16 + d4)
        else (if d4 < 0 then (if d3 < 0 then (if d2 < 0 then 0 else 0 * 16 + d2) else (if d2 < 0 then 0 else 0 * 16 + d2) * 16 + d3) else (if d3 < 0 then (if d2 < 0 then 0 else 0 * 16 + d2) else (if d2 < 0 then 0 else 0 * 16 + d2) * 16 + d3) * 16 + d4) * 16 + d5) := by
  by_cases h5 : d5 < 0
  · simp [h5] at h
  by_cases h4 : d4 < 0
  · simp [h4] at h
  by_cases h3 : d3 < 0
  · simp [h3] at h
  by_cases h2 : d2 < 0
  · simp [h2] at h
  simp [h2, h3, h4, h5]

theorem all4 (bs : List UInt8) (h : allTo bs 4 = true) : esc4 (bs.getD 2 0).toNat (bs.getD 3 0).toNat (bs.getD 4 0).toNat (bs.getD 5 0).toNat = wantTo bs 4 :=
  plain4 _ _ _ _ h

theorem plain4n (d2 d3 d4 d5 x : Int) (h : (if d5 < 0 then false else if d4 < 0 then false else if d3 < 0 then false else if d2 < 0 then false else true) = false) :
    (if d2 < 0 ∨ d3 < 0 ∨ d4 < 0 ∨ d5 < 0 then -1 else x) = -1 := by
  by_cases h5 : d5 < 0
  · simp [h5]
  by_cases h4 : d4 < 0
  · simp [h4]
  by_cases h3 : d3 < 0
  · simp [h3]
  by_cases h2 : d2 < 0
  · simp [h2]
  simp [h2, h3, h4, h5] at h

theorem none4 (bs : List UInt8) (h : allTo bs 4 = false) : esc4 (bs.getD 2 0).toNat (bs.getD 3 0).toNat (bs.getD 4 0).toNat (bs.getD 5 0).toNat = -1 :=
  plain4n _ _ _ _ _ h

end Go.Proofs.Qxb6617450aDoor.Hx
