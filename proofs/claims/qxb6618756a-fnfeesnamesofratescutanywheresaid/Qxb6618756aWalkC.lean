/-
  The two bounds on lengths.
-/
import Derived.Test.Qxb6618756aWalkB
namespace Go.Proofs.Qxb6618756a
open Go.RowKit

/-- Every string is at most B bytes long. -/
def Small (B : Nat) (ss : List ByteArray) : Prop := ∀ j, j < ss.length → (ss.getD j ByteArray.empty).size ≤ B

theorem SRow.at_ {w : World} {p : Option Addr} {n k : Nat} {ss : List ByteArray} (h : SRow w p n ss) (hk : k < n) :
    ∃ b off, p = some ⟨b, off, none⟩ ∧ ∀ j, j < n → w.cell? ⟨b, off + j, none⟩ = some (.string (ss.getD j ByteArray.empty)) := by
  rcases h.2 with h0 | h1
  · omega
  · exact h1

/-- What the bound answers. -/
def BytesPost (n m : Nat) (ss ts : List ByteArray) (w : World) (e : Ending) (w' : World) : Prop :=
  w' = w ∧ (e = .returned (.bool false) ∨ (e = .returned (.bool true) ∧ n ≤ 1048576 ∧ m ≤ 1048576 ∧ Small 1048576 ss ∧ Small 1048576 ts))
theorem BytesPost.no {n m : Nat} {ss ts : List ByteArray} {w : World} : BytesPost n m ss ts w (.returned (.bool false)) w := ⟨rfl, .inl rfl⟩
theorem BytesPost.yes {n m : Nat} {ss ts : List ByteArray} {w : World} (h1 : n ≤ 1048576) (h2 : m ≤ 1048576) (h3 : Small 1048576 ss) (h4 : Small 1048576 ts) : BytesPost n m ss ts w (.returned (.bool true)) w := ⟨rfl, .inr ⟨rfl, h1, h2, h3, h4⟩⟩

set_option maxHeartbeats 1000000 in
theorem bytesA_any (p q : Option Addr) (n c m d : Nat) (ss ts : List ByteArray) (day line : Int) (w : World) (h : SRow w p n ss) (h' : SRow w q m ts)
    (hn : n ≤ 9223372036854775807) (hm : m ≤ 9223372036854775807) (hs : Small 9223372036854775807 ss) (ht : Small 9223372036854775807 ts) :
    Calls Try.prog 5 #[.slice p n c, .slice q m d, .int .i64 day, .int .i64 line] w fun e w' => BytesPost n m ss ts w e w' := by
  by_cases hn2 : n ≤ 1048576
  case neg =>
    go_enter Try.func5, Try.ntmps5
    go_wp2
    go_ret
    exact BytesPost.no
  have H := Lib.hid h
  have H' := Lib.hid h'
  have HS := Lib.hid hs
  have HT := Lib.hid ht
  clear h h' hs ht
  go_enter Try.func5, Try.ntmps5
  go_wp2
  go_loop [9, 10] (fun vz vi => ∃ (k : Nat) (z : Int), vz = .int .i64 z ∧ vi = .int .i64 k ∧ 0 ≤ z ∧ z ≤ 1048576 ∧ k ≤ n ∧ Hid (∀ j, j < k → (ss.getD j ByteArray.empty).size ≤ 1048576)) (fun _ vi => n - (intOf vi).toNat)
  case atStart => exact ⟨0, n, by first | rfl | go_num, rfl, by omega, by omega, Nat.zero_le _, fun j hj => by omega⟩
  case round =>
    obtain ⟨k, z, rfl, rfl, hz0, hz1, hk, HK⟩ := hrel
    by_cases hkn : k < n
    · obtain ⟨b, off, rfl, hc⟩ := H.out.at_ hkn
      have hck := hc k hkn
      have hsz := HS.out k (by rw [H.out.1]; exact hkn)
      obtain ⟨y, hy⟩ : ∃ y, ss.getD k ByteArray.empty = y := ⟨_, rfl⟩
      rw [hy] at hck hsz
      have HY := Lib.hid hy
      clear hc hy
      by_cases h1 : y.size ≤ 1048576
      · by_cases h2 : z + (y.size : Int) ≤ 1048576
        · go_wp2
          go_round
          case rel => exact ⟨k + 1, z + y.size, by first | rfl | go_num, by go_num, by omega, by omega, by omega, fun j hj => by
            by_cases e : j = k
            · subst e; rw [HY.out]; exact h1
            · exact HK.out j (by omega)⟩
          case measure => simp [intOf]; omega
        · go_wp2
          go_ret
          exact BytesPost.no
      · go_wp2
        go_ret
        exact BytesPost.no
    · have HA : Hid (Small 1048576 ss) := Lib.hid (fun j hj => HK.out j (by rw [H.out.1] at hj; omega))
      clear HK
      by_cases hm2 : m ≤ 1048576
      case neg =>
        go_wp2
        go_ret
        exact BytesPost.no
      by_cases hm3 : z + (m : Int) ≤ 1048576
      case neg =>
        go_wp2
        go_ret
        exact BytesPost.no
      go_wp2
      go_loop [9, 11] (fun vz vi => ∃ (k : Nat) (z : Int), vz = .int .i64 z ∧ vi = .int .i64 k ∧ 0 ≤ z ∧ z ≤ 1048576 ∧ k ≤ m ∧ Hid (∀ j, j < k → (ts.getD j ByteArray.empty).size ≤ 1048576)) (fun _ vi => m - (intOf vi).toNat)
      case atStart => exact ⟨0, z + m, by first | rfl | go_num, rfl, by omega, by omega, Nat.zero_le _, fun j hj => by omega⟩
      case round =>
        obtain ⟨k, z, rfl, rfl, hz0, hz1, hk, HK⟩ := hrel
        by_cases hkm : k < m
        · obtain ⟨b, off, rfl, hc⟩ := H'.out.at_ hkm
          have hck := hc k hkm
          have hsz := HT.out k (by rw [H'.out.1]; exact hkm)
          obtain ⟨y, hy⟩ : ∃ y, ts.getD k ByteArray.empty = y := ⟨_, rfl⟩
          rw [hy] at hck hsz
          have HY := Lib.hid hy
          clear hc hy
          by_cases h1 : y.size ≤ 1048576
          · by_cases h2 : z + (y.size : Int) ≤ 1048576
            · go_wp2
              go_round
              case rel => exact ⟨k + 1, z + y.size, by first | rfl | go_num, by go_num, by omega, by omega, by omega, fun j hj => by
                by_cases e : j = k
                · subst e; rw [HY.out]; exact h1
                · exact HK.out j (by omega)⟩
              case measure => simp [intOf]; omega
            · go_wp2
              go_ret
              exact BytesPost.no
          · go_wp2
            go_ret
            exact BytesPost.no
        · go_wp2
          go_ret
          exact BytesPost.yes hn2 hm2 HA.out (fun j hj => HK.out j (by rw [H'.out.1] at hj; omega))

set_option maxHeartbeats 1000000 in
theorem bytesB_any (p q : Option Addr) (n c m d : Nat) (ss ts : List ByteArray) (k0 : Int) (w : World) (h : SRow w p n ss) (h' : SRow w q m ts)
    (hn : n ≤ 9223372036854775807) (hm : m ≤ 9223372036854775807) (hs : Small 9223372036854775807 ss) (ht : Small 9223372036854775807 ts) :
    Calls Try.prog 11 #[.slice p n c, .slice q m d, .int .i64 k0] w fun e w' => BytesPost n m ss ts w e w' := by
  by_cases hn2 : n ≤ 1048576
  case neg =>
    go_enter Try.func11, Try.ntmps11
    go_wp2
    go_ret
    exact BytesPost.no
  have H := Lib.hid h
  have H' := Lib.hid h'
  have HS := Lib.hid hs
  have HT := Lib.hid ht
  clear h h' hs ht
  go_enter Try.func11, Try.ntmps11
  go_wp2
  go_loop [7, 8] (fun vz vi => ∃ (k : Nat) (z : Int), vz = .int .i64 z ∧ vi = .int .i64 k ∧ 0 ≤ z ∧ z ≤ 1048576 ∧ k ≤ n ∧ Hid (∀ j, j < k → (ss.getD j ByteArray.empty).size ≤ 1048576)) (fun _ vi => n - (intOf vi).toNat)
  case atStart => exact ⟨0, n, by first | rfl | go_num, rfl, by omega, by omega, Nat.zero_le _, fun j hj => by omega⟩
  case round =>
    obtain ⟨k, z, rfl, rfl, hz0, hz1, hk, HK⟩ := hrel
    by_cases hkn : k < n
    · obtain ⟨b, off, rfl, hc⟩ := H.out.at_ hkn
      have hck := hc k hkn
      have hsz := HS.out k (by rw [H.out.1]; exact hkn)
      obtain ⟨y, hy⟩ : ∃ y, ss.getD k ByteArray.empty = y := ⟨_, rfl⟩
      rw [hy] at hck hsz
      have HY := Lib.hid hy
      clear hc hy
      by_cases h1 : y.size ≤ 1048576
      · by_cases h2 : z + (y.size : Int) ≤ 1048576
        · go_wp2
          go_round
          case rel => exact ⟨k + 1, z + y.size, by first | rfl | go_num, by go_num, by omega, by omega, by omega, fun j hj => by
            by_cases e : j = k
            · subst e; rw [HY.out]; exact h1
            · exact HK.out j (by omega)⟩
          case measure => simp [intOf]; omega
        · go_wp2
          go_ret
          exact BytesPost.no
      · go_wp2
        go_ret
        exact BytesPost.no
    · have HA : Hid (Small 1048576 ss) := Lib.hid (fun j hj => HK.out j (by rw [H.out.1] at hj; omega))
      clear HK
      by_cases hm2 : m ≤ 1048576
      case neg =>
        go_wp2
        go_ret
        exact BytesPost.no
      by_cases hm3 : z + (m : Int) ≤ 1048576
      case neg =>
        go_wp2
        go_ret
        exact BytesPost.no
      go_wp2
      go_loop [7, 9] (fun vz vi => ∃ (k : Nat) (z : Int), vz = .int .i64 z ∧ vi = .int .i64 k ∧ 0 ≤ z ∧ z ≤ 1048576 ∧ k ≤ m ∧ Hid (∀ j, j < k → (ts.getD j ByteArray.empty).size ≤ 1048576)) (fun _ vi => m - (intOf vi).toNat)
      case atStart => exact ⟨0, z + m, by first | rfl | go_num, rfl, by omega, by omega, Nat.zero_le _, fun j hj => by omega⟩
      case round =>
        obtain ⟨k, z, rfl, rfl, hz0, hz1, hk, HK⟩ := hrel
        by_cases hkm : k < m
        · obtain ⟨b, off, rfl, hc⟩ := H'.out.at_ hkm
          have hck := hc k hkm
          have hsz := HT.out k (by rw [H'.out.1]; exact hkm)
          obtain ⟨y, hy⟩ : ∃ y, ts.getD k ByteArray.empty = y := ⟨_, rfl⟩
          rw [hy] at hck hsz
          have HY := Lib.hid hy
          clear hc hy
          by_cases h1 : y.size ≤ 1048576
          · by_cases h2 : z + (y.size : Int) ≤ 1048576
            · go_wp2
              go_round
              case rel => exact ⟨k + 1, z + y.size, by first | rfl | go_num, by go_num, by omega, by omega, by omega, fun j hj => by
                by_cases e : j = k
                · subst e; rw [HY.out]; exact h1
                · exact HK.out j (by omega)⟩
              case measure => simp [intOf]; omega
            · go_wp2
              go_ret
              exact BytesPost.no
          · go_wp2
            go_ret
            exact BytesPost.no
        · go_wp2
          go_ret
          exact BytesPost.yes hn2 hm2 HA.out (fun j hj => HK.out j (by rw [H'.out.1] at hj; omega))

end Go.Proofs.Qxb6618756a
