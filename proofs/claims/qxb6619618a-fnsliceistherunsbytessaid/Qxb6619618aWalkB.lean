/-
  Pieces in memory; the bound on lengths; zzPiecesWellFormed.
-/
import Derived.Test.Qxb6619618aWalkA
namespace Go.Proofs.Qxb6619618a
open Go.RowKit

/-- One piece: its slice and its bytes. -/
structure Pc where
  p : Option Addr
  n : Nat
  cap : Nat
  bs : List UInt8
def pc0 : Pc := ⟨none, 0, 0, []⟩
def Pc.val (q : Pc) : Value := .slice q.p q.n q.cap
def Pc.ok (w : World) (q : Pc) : Prop :=
  q.bs.length = q.n ∧ q.n ≤ q.cap ∧ q.cap ≤ 9223372036854775807 ∧ (q.n = 0 ∨ ∃ b off, q.p = some ⟨b, off, none⟩ ∧ ∀ t, t < q.n → w.cell? ⟨b, off + t, none⟩ = some (.int .u8 (q.bs.getD t 0).toNat))
theorem Pc.ok.below {w w' : World} {q : Pc} (h : q.ok w) (hb : Below w.heap.size w w') : q.ok w' := by
  obtain ⟨h1, h2, h3, h0 | ⟨b, off, hp, hc⟩⟩ := h
  · exact ⟨h1, h2, h3, .inl h0⟩
  · exact ⟨h1, h2, h3, .inr ⟨b, off, hp, fun j hj => (hb.cell (p := ⟨b, off + j, none⟩) (Lib.lt_of_cell (hc j hj))).trans (hc j hj)⟩⟩

/-- The pieces. -/
def PV (w : World) (p : Option Addr) (n : Nat) (ps : List Pc) : Prop :=
  ps.length = n ∧ (n = 0 ∨ ∃ b off, p = some ⟨b, off, none⟩ ∧ ∀ j, j < n → w.cell? ⟨b, off + j, none⟩ = some (ps.getD j pc0).val ∧ (ps.getD j pc0).ok w)
theorem PV.at_ {w : World} {p : Option Addr} {n k : Nat} {ps : List Pc} (h : PV w p n ps) (hk : k < n) :
    ∃ b off, p = some ⟨b, off, none⟩ ∧ ∀ j, j < n → w.cell? ⟨b, off + j, none⟩ = some (ps.getD j pc0).val ∧ (ps.getD j pc0).ok w := by
  rcases h.2 with h0 | h1
  · omega
  · exact h1
theorem PV.below {w w' : World} {p : Option Addr} {n : Nat} {ps : List Pc} (h : PV w p n ps) (hb : Below w.heap.size w w') : PV w' p n ps := by
  obtain ⟨hl, h0 | ⟨b, off, hp, hc⟩⟩ := h
  · exact ⟨hl, .inl h0⟩
  · exact ⟨hl, .inr ⟨b, off, hp, fun j hj => ⟨(hb.cell (p := ⟨b, off + j, none⟩) (Lib.lt_of_cell (hc j hj).1)).trans (hc j hj).1, (hc j hj).2.below hb⟩⟩⟩

/-- How long the first k pieces are together. -/
def pre (ps : List Pc) : Nat → Nat
  | 0 => 0
  | k + 1 => pre ps k + (ps.getD k pc0).n
theorem pre_mono (ps : List Pc) {i j : Nat} (h : i ≤ j) : pre ps i ≤ pre ps j := by
  induction j with
  | zero => rw [show i = 0 by omega]; exact Nat.le_refl _
  | succ j ih =>
    by_cases e : i = j + 1
    · rw [e]; exact Nat.le_refl _
    · have := ih (by omega)
      show pre ps i ≤ pre ps j + _
      omega

/-- No piece is longer than B. -/
def Short (B : Nat) (ps : List Pc) : Prop := ∀ j, j < ps.length → (ps.getD j pc0).n ≤ B

def BytesPost (n m : Nat) (ps : List Pc) (w : World) (e : Ending) (w' : World) : Prop :=
  w' = w ∧ (e = .returned (.bool false) ∨ (e = .returned (.bool true) ∧ n ≤ 1048576 ∧ m ≤ 1048576 ∧ Short 1048576 ps))
theorem BytesPost.no {n m : Nat} {ps : List Pc} {w : World} : BytesPost n m ps w (.returned (.bool false)) w := ⟨rfl, .inl rfl⟩
theorem BytesPost.yes {n m : Nat} {ps : List Pc} {w : World} (h1 : n ≤ 1048576) (h2 : m ≤ 1048576) (h3 : Short 1048576 ps) : BytesPost n m ps w (.returned (.bool true)) w := ⟨rfl, .inr ⟨rfl, h1, h2, h3⟩⟩

set_option maxHeartbeats 1000000 in
theorem bytes_any (p q : Option Addr) (n c m d : Nat) (ps : List Pc) (x y : Int) (w : World) (h : PV w p n ps) (hn : n ≤ 9223372036854775807) (hm : m ≤ 9223372036854775807) :
    Calls Try.prog 7 #[.slice p n c, .slice q m d, .int .i64 x, .int .i64 y] w fun e w' => BytesPost n m ps w e w' := by
  by_cases hn2 : n ≤ 1048576
  case neg =>
    go_enter Try.func7, Try.ntmps7
    go_wp2
    go_ret
    exact BytesPost.no
  have H := Lib.hid h
  clear h
  go_enter Try.func7, Try.ntmps7
  go_wp2
  go_loop [9, 10] (fun vz vi => ∃ (k : Nat) (z : Int), vz = .int .i64 z ∧ vi = .int .i64 k ∧ 0 ≤ z ∧ z ≤ 1048576 ∧ k ≤ n ∧ Hid (∀ j, j < k → (ps.getD j pc0).n ≤ 1048576)) (fun _ vi => n - (intOf vi).toNat)
  case atStart => exact ⟨0, n, by first | rfl | go_num, rfl, by omega, by omega, Nat.zero_le _, fun j hj => by omega⟩
  case round =>
    obtain ⟨k, z, rfl, rfl, hz0, hz1, hk, HK⟩ := hrel
    by_cases hkn : k < n
    · obtain ⟨b, off, rfl, hc⟩ := H.out.at_ hkn
      obtain ⟨hck, hok⟩ := hc k hkn
      have hl1 := hok.2.1
      have hl2 := hok.2.2.1
      unfold Pc.val at hck
      obtain ⟨s, hs⟩ : ∃ s, (ps.getD k pc0).n = s := ⟨_, rfl⟩
      rw [hs] at hck hl1
      generalize (ps.getD k pc0).p = sp at hck
      generalize (ps.getD k pc0).cap = sc at hck hl1 hl2
      have HY := Lib.hid hs
      clear hc hs hok
      by_cases h1 : s ≤ 1048576
      · by_cases h2 : z + (s : Int) ≤ 1048576
        · go_wp2
          go_round
          case rel => exact ⟨k + 1, z + s, by first | rfl | go_num, by go_num, by omega, by omega, by omega, (fun j hj => by
            by_cases e : j = k
            · subst e; rw [HY.out]; exact h1
            · exact HK.out j (by omega))⟩
          case measure => simp [intOf]; omega
        · go_wp2
          go_ret
          exact BytesPost.no
      · go_wp2
        go_ret
        exact BytesPost.no
    · have HA : Hid (Short 1048576 ps) := Lib.hid (fun j hj => HK.out j (by rw [H.out.1] at hj; omega))
      clear HK
      by_cases hm2 : m ≤ 1048576
      case neg =>
        go_wp2
        go_ret
        exact BytesPost.no
      by_cases hm3 : z + (m : Int) ≤ 1048576
      case neg =>
        go_wp2
        go_ret
        exact BytesPost.no
      go_wp2
      go_ret
      exact BytesPost.yes hn2 hm2 HA.out

/-- As the type documents a Pieces. -/
def WF (ps : List Pc) (es : List Int) : Prop := es.length = ps.length ∧ ∀ k, k < ps.length → 0 < (ps.getD k pc0).n ∧ es.getD k 0 = (pre ps (k + 1) : Nat)
def WfPost (ps : List Pc) (es : List Int) (w : World) (e : Ending) (w' : World) : Prop :=
  w' = w ∧ (e = .returned (.bool false) ∨ (e = .returned (.bool true) ∧ WF ps es))
theorem WfPost.no {ps : List Pc} {es : List Int} {w : World} : WfPost ps es w (.returned (.bool false)) w := ⟨rfl, .inl rfl⟩
theorem WfPost.yes {ps : List Pc} {es : List Int} {w : World} (h : WF ps es) : WfPost ps es w (.returned (.bool true)) w := ⟨rfl, .inr ⟨rfl, h⟩⟩

set_option maxHeartbeats 1000000 in
theorem wf_any (p q : Option Addr) (n c m d : Nat) (ps : List Pc) (es : List Int) (w : World) (h : PV w p n ps) (h' : EV w q m es) (hn : n ≤ 1048576) (hm : m ≤ 1048576) (hb : pre ps n ≤ 1048576) :
    Calls Try.prog 8 #[.slice p n c, .slice q m d] w fun e w' => WfPost ps es w e w' := by
  have H := Lib.hid h
  have H' := Lib.hid h'
  have HB := Lib.hid hb
  clear h h' hb
  by_cases hmn : m = n
  case neg =>
    have hne : ((m : Int) != n) = true := by rw [bne_iff_ne]; omega
    clear hmn
    go_enter Try.func8, Try.ntmps8
    go_wp2
    go_ret
    exact WfPost.no
  subst hmn
  have hne : ((m : Int) != m) = false := by simp
  go_enter Try.func8, Try.ntmps8
  go_wp2
  go_loop [5, 6] (fun vs vk => ∃ (k : Nat) (s : Nat), vs = .int .i64 s ∧ vk = .int .i64 k ∧ k ≤ m ∧ s ≤ 1048576 ∧ Hid (s = pre ps k) ∧ Hid (∀ j, j < k → 0 < (ps.getD j pc0).n ∧ es.getD j 0 = (pre ps (j + 1) : Nat))) (fun _ vk => m - (intOf vk).toNat)
  case atStart => exact ⟨0, 0, rfl, rfl, Nat.zero_le _, Nat.zero_le _, rfl, (fun j hj => by omega)⟩
  case round =>
    obtain ⟨k, s, rfl, rfl, hk, hs, HS, HK⟩ := hrel
    by_cases hkn : k < m
    · obtain ⟨b, off, rfl, hc⟩ := H.out.at_ hkn
      obtain ⟨b', off', rfl, hc'⟩ := H'.out.at_ hkn
      obtain ⟨hck, hok⟩ := hc k hkn
      have hce := hc' k hkn
      have hsum : pre ps (k + 1) = s + (ps.getD k pc0).n := by rw [HS.out]; rfl
      have hle := pre_mono ps (show k + 1 ≤ m by omega)
      have hle2 : s + (ps.getD k pc0).n ≤ 1048576 := by have := HB.out; omega
      have HSum := Lib.hid hsum
      unfold Pc.val at hck
      obtain ⟨l, hl⟩ : ∃ l, (ps.getD k pc0).n = l := ⟨_, rfl⟩
      obtain ⟨x, hx⟩ : ∃ x, es.getD k 0 = x := ⟨_, rfl⟩
      rw [hl] at hck hle2 HSum
      rw [hx] at hce
      generalize (ps.getD k pc0).p = sp at hck
      generalize (ps.getD k pc0).cap = sc at hck
      have HY := Lib.hid hl
      have HX := Lib.hid hx
      clear hc hc' hok hsum hle hl hx
      by_cases hl0 : l = 0
      · have hb0 : ((l : Int) == 0) = true := by simp [hl0]
        clear hl0
        go_wp2
        go_ret
        exact WfPost.no
      · have hb0 : ((l : Int) == 0) = false := beq_eq_false_iff_ne.2 (by omega)
        by_cases hxs : x = (s : Int) + l
        · have hb1 : (x != (s : Int) + l) = false := by simp [hxs]
          have HXS := Lib.hid hxs
          clear hxs
          go_wp2
          go_round
          case rel => exact ⟨k + 1, s + l, by first | rfl | go_num, by go_num, by omega, by omega, by rw [HSum.out]; exact rfl, (fun j hj => by
            by_cases e : j = k
            · subst e
              exact ⟨by rw [HY.out]; omega, by rw [HX.out, HXS.out, HSum.out]; omega⟩
            · exact HK.out j (by omega))⟩
          case measure => simp [intOf]; omega
        · have hb1 : (x != (s : Int) + l) = true := by rw [bne_iff_ne]; exact hxs
          clear hxs
          go_wp2
          go_ret
          exact WfPost.no
    · have HW : Hid (WF ps es) := Lib.hid ⟨by rw [H.out.1, H'.out.1], fun j hj => HK.out j (by rw [H.out.1] at hj; omega)⟩
      clear HK HS
      go_wp2
      go_ret
      exact WfPost.yes HW.out

end Go.Proofs.Qxb6619618a
