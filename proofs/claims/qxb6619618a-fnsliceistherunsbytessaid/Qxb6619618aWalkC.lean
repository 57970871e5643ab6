/-
  (Pieces).Slice.
-/
import Derived.Test.Qxb6619618aWalkB
import Derived.Deep.RegionLaw
import Derived.Deep.RegionHeld3
import Derived.Deep.DrawnRows
import Derived.BigRegion
import Derived.Lib.BufferWrite
namespace Go.Proofs.Qxb6619618a
open Go.RowKit

/-- The slice at (gb, go) holds the run's bytes from 'a' up to 'z'. -/
def Reads (w : World) (gb go : Nat) (ps : List Pc) (a z : Nat) : Prop :=
  ∀ k b, k < ps.length → b < (ps.getD k pc0).n → a ≤ pre ps k + b → pre ps k + b < z → w.cell? ⟨gb, go + (pre ps k + b - a), none⟩ = some (.int .u8 ((ps.getD k pc0).bs.getD b 0).toNat)

theorem Reads.below {w w' : World} {gb go : Nat} {ps : List Pc} {a z : Nat} (h : Reads w gb go ps a z) (hb : Below w.heap.size w w') : Reads w' gb go ps a z :=
  fun k b hk hb1 h1 h2 => (hb.cell (p := ⟨gb, go + (pre ps k + b - a), none⟩) (Lib.lt_of_cell (h k b hk hb1 h1 h2))).trans (h k b hk hb1 h1 h2)

def SlicePost (ps : List Pc) (a z : Nat) (w : World) (e : Ending) (w' : World) : Prop :=
  ∃ gb go gc, e = .returned (.slice (some ⟨gb, go, none⟩) (z - a) gc) ∧ Reads w' gb go ps a z ∧ Below w.heap.size w w'
theorem SlicePost.mk {ps : List Pc} {a z : Nat} {w w' : World} (gb go gc l : Nat) (hl : l = z - a) (hr : Reads w' gb go ps a z) (hb : Below w.heap.size w w') : SlicePost ps a z w (.returned (.slice (some ⟨gb, go, none⟩) l gc)) w' := by
  subst hl; exact ⟨gb, go, gc, rfl, hr, hb⟩

theorem wf_sorted {ps : List Pc} {es : List Int} (h : WF ps es) (a b : Nat) (hab : a ≤ b) (hb : b < ps.length) : es.getD a 0 ≤ es.getD b 0 := by
  rw [(h.2 a (by omega)).2, (h.2 b hb).2]
  have := pre_mono ps (show a + 1 ≤ b + 1 by omega)
  omega

theorem cut_lo {ps : List Pc} {es : List Int} (h : WF ps es) {a i : Nat} (hc : IsCut es ((a : Int) + 1) i) : pre ps i ≤ a := by
  cases i with
  | zero => exact Nat.zero_le _
  | succ j =>
    have h1 := hc.2.1 j (by omega)
    have h2 := hc.1
    rw [h.1] at h2
    rw [(h.2 j (by omega)).2] at h1
    omega
theorem cut_hi {ps : List Pc} {es : List Int} (h : WF ps es) {a i : Nat} (hc : IsCut es ((a : Int) + 1) i) (hi : i < ps.length) : a < pre ps (i + 1) := by
  have h1 := hc.2.2 i (Nat.le_refl _) (by rw [h.1]; exact hi)
  rw [(h.2 i hi).2] at h1
  omega

theorem place_unique (ps : List Pc) {k i pos : Nat} (h1 : pre ps k ≤ pos) (h2 : pos < pre ps (k + 1)) (h3 : pre ps i ≤ pos) (h4 : pos < pre ps (i + 1)) : k = i := by
  rcases Nat.lt_trichotomy k i with h | h | h
  · have := pre_mono ps (show k + 1 ≤ i by omega); omega
  · exact h
  · have := pre_mono ps (show i + 1 ≤ k by omega); omega

/-- The pieces ahead of j are in: the block g holds the first m bytes of the cut. -/
structure Part (w : World) (g : Nat) (ps : List Pc) (a z j m : Nat) (xs : List UInt8) : Prop where
  len : xs.length = m
  at_ : a + m = min z (max a (pre ps j))
  own : w.ownsRow g 5 1 (.slice (some ⟨g, 0, none⟩) m (z - a)) m (Lib.byteCells xs)
  hold : ∀ k b, k < ps.length → b < (ps.getD k pc0).n → a ≤ pre ps k + b → pre ps k + b < a + m → xs.getD (pre ps k + b - a) 0 = (ps.getD k pc0).bs.getD b 0

theorem Part.start {w : World} {g : Nat} {ps : List Pc} {a z i : Nat} (h : pre ps i ≤ a ∧ a < pre ps (i + 1)) (haz : a ≤ z) (ho : w.ownsRow g 5 1 (.slice (some ⟨g, 0, none⟩) 0 (z - a)) 0 (Lib.byteCells [])) : Part w g ps a z i 0 [] :=
  ⟨rfl, by omega, ho, fun k b _ _ h1 h2 => by omega⟩
theorem Part.inside {w : World} {g : Nat} {ps : List Pc} {a z j m n : Nat} {xs : List UInt8} (h : Part w g ps a z j m xs) (hz : z ≤ pre ps n) (hm : m < z - a) (hj : j ≤ n) : j < n := by
  have h1 := h.at_
  by_cases e : j = n
  · subst e; omega
  · omega
theorem byteCells_get (bs : List UInt8) (j : Nat) (hj : j < bs.length) : (Lib.byteCells bs)[j]? = some (.int .u8 ((bs.getD j 0).toNat : Int)) := by
  simp [Lib.byteCells, List.getD, List.getElem?_eq_getElem hj]
theorem Part.reads {w : World} {g : Nat} {ps : List Pc} {a z j m n : Nat} {xs : List UInt8} (h : Part w g ps a z j m xs) (hm : m = z - a) (_ : ps.length = n) : Reads w g 0 ps a z := by
  intro k b hk hb h1 h2
  have ho := h.own
  have hlt : pre ps k + b - a < m := by omega
  rw [Nat.zero_add, ho.cellAt _ (by omega), byteCells_get xs _ (by rw [h.len]; exact hlt), h.hold k b hk hb h1 (by omega)]

/-- Piece j, as the round meets it. -/
structure PieceAt (w : World) (b off j : Nat) (ps : List Pc) (s l pb po sc : Nat) : Prop where
  cell : w.cell? ⟨b, off + j, none⟩ = some (.slice (some ⟨pb, po, none⟩) l sc)
  s_eq : pre ps j = s
  l_eq : (ps.getD j pc0).n = l
  sum : pre ps (j + 1) = s + l
  pos : 0 < l
  lc : l ≤ sc
  cm : sc ≤ 9223372036854775807
  blen : (ps.getD j pc0).bs.length = l
  bytes : ∀ t, t < l → w.cell? ⟨pb, po + t, none⟩ = some (.int .u8 ((ps.getD j pc0).bs.getD t 0).toNat)

theorem piece_at {W0 wr : World} {B b off n j : Nat} {ps : List Pc} {es : List Int} (h : PV W0 (some ⟨b, off, none⟩) n ps) (hw : WF ps es) (hsz : W0.heap.size = B) (hbr : Below B W0 wr) (hj : j < n) :
    ∃ s l pb po sc, PieceAt wr b off j ps s l pb po sc := by
  subst hsz
  have h1 := h.below hbr
  obtain ⟨b1, off1, e, hc⟩ := h1.at_ hj
  cases e
  obtain ⟨hck, hbl, hlc, hcm, h0 | ⟨pb, po, hpp, hcc⟩⟩ := hc j hj
  · have := (hw.2 j (by rw [h.1]; exact hj)).1; omega
  · refine ⟨pre ps j, (ps.getD j pc0).n, pb, po, (ps.getD j pc0).cap, ?_, rfl, rfl, rfl, (hw.2 j (by rw [h.1]; exact hj)).1, hlc, hcm, hbl, hcc⟩
    rw [hck]; unfold Pc.val; rw [hpp]

theorem entry_at {W0 wr : World} {B b off n j s l : Nat} {ps : List Pc} {es : List Int} (h : EV W0 (some ⟨b, off, none⟩) n es) (hw : WF ps es) (hsz : W0.heap.size = B) (hbr : Below B W0 wr) (hj : j < n) (hs : pre ps (j + 1) = s + l) :
    wr.cell? ⟨b, off + j, none⟩ = some (.int .i64 ((s : Int) + l)) := by
  subst hsz
  obtain ⟨b1, off1, e, hc⟩ := (h.below hbr).at_ hj
  cases e
  rw [hc j hj, (hw.2 j (by rw [← hw.1, h.1]; exact hj)).2, hs]
  rfl

/-- There is room for the cut of piece j, and its bytes lie there. -/
theorem Part.room {w : World} {g b off : Nat} {ps : List Pc} {a z j m s l pb po sc lo hi : Nat} {xs : List UInt8} (h : Part w g ps a z j m xs) (hp : PieceAt w b off j ps s l pb po sc)
    (h1 : lo < hi) (h2 : hi ≤ l) (h3 : a + m = s + lo) (h4 : s + hi ≤ z) :
    (Lib.byteCells (((ps.getD j pc0).bs.drop lo).take (hi - lo))).length = (hi - lo) * 1 ∧
    (∀ t u, (Lib.byteCells (((ps.getD j pc0).bs.drop lo).take (hi - lo)))[t]? = some u → w.cell? ((⟨pb, po + lo, none⟩ : Addr).add t) = some u) ∧
    (∀ u ∈ Lib.byteCells (((ps.getD j pc0).bs.drop lo).take (hi - lo)), u.oneCell' = true) ∧ m + (hi - lo) ≤ z - a ∧
    (∀ t, t < (Lib.byteCells (((ps.getD j pc0).bs.drop lo).take (hi - lo))).length → (w.cell? ⟨g, 0 + m * 1 + t, none⟩).isSome = true ∧ w.frozen? ⟨g, 0 + m * 1 + t, none⟩ = false) := by
  have hlen : (Lib.byteCells (((ps.getD j pc0).bs.drop lo).take (hi - lo))).length = hi - lo := by
    rw [Lib.byteCells_length, List.length_take, List.length_drop, hp.blen]; omega
  refine ⟨by omega, fun t u hu => ?_, Lib.byteCells_one _, by omega, fun t ht => ?_⟩
  · have ht : t < hi - lo := by rw [← hlen]; exact (List.getElem?_eq_some_iff.1 hu).1
    have hg : (((ps.getD j pc0).bs.drop lo).take (hi - lo)).getD t 0 = (ps.getD j pc0).bs.getD (lo + t) 0 := by
      simp [List.getD, ht]
    rw [byteCells_get _ t (by rw [← Lib.byteCells_length, hlen]; exact ht), hg] at hu
    have hb := hp.bytes (lo + t) (by omega)
    rw [hu] at hb
    rw [Go.WideShapes.add_plain, Nat.add_assoc]
    exact hb
  · rw [hlen] at ht
    obtain ⟨_, h0 | ⟨g', cap', cur, e, _, hg, _, _, hcs, _⟩⟩ := h.own
    · simp at h0
    · simp only [Value.slice.injEq, Option.some.injEq, Addr.mk.injEq, and_true, true_and] at e
      obtain ⟨rfl, rfl⟩ := e
      refine ⟨?_, h.own.frozenAt _⟩
      rw [cell_of_row w _ _ cur 5 (0, 0) hg, Array.getElem?_eq_getElem (by omega)]
      rfl

theorem Part.next {w w' : World} {g b off : Nat} {ps : List Pc} {a z j m s l pb po sc lo hi : Nat} {xs : List UInt8} (h : Part w g ps a z j m xs) (hp : PieceAt w b off j ps s l pb po sc)
    (h1 : lo < hi) (h2 : hi ≤ l) (h3 : a + m = s + lo) (h4 : s + hi ≤ z) (h5 : min z (s + l) = s + hi) (h6 : a < s + l) (_ : a ≤ s + lo)
    (ho : w'.ownsRow g 5 1 (.slice (some ⟨g, 0, none⟩) (m + (hi - lo)) (z - a)) (m + (hi - lo)) (Lib.byteCells xs ++ Lib.byteCells (((ps.getD j pc0).bs.drop lo).take (hi - lo)))) :
    Part w' g ps a z (j + 1) (m + (hi - lo)) (xs ++ ((ps.getD j pc0).bs.drop lo).take (hi - lo)) := by
  have hyl : (((ps.getD j pc0).bs.drop lo).take (hi - lo)).length = hi - lo := by rw [List.length_take, List.length_drop, hp.blen]; omega
  have e : Lib.byteCells (xs ++ ((ps.getD j pc0).bs.drop lo).take (hi - lo)) = Lib.byteCells xs ++ Lib.byteCells (((ps.getD j pc0).bs.drop lo).take (hi - lo)) := by simp [Lib.byteCells]
  refine ⟨by rw [List.length_append, hyl, h.len], by rw [hp.sum]; omega, by rw [e]; exact ho, fun k t hk ht p1 p2 => ?_⟩
  by_cases hold : pre ps k + t < a + m
  · have hlt : pre ps k + t - a < xs.length := by rw [h.len]; omega
    rw [show (xs ++ ((ps.getD j pc0).bs.drop lo).take (hi - lo)).getD (pre ps k + t - a) 0 = xs.getD (pre ps k + t - a) 0 by simp [List.getD, List.getElem?_append_left hlt]]
    exact h.hold k t hk ht p1 hold
  · have hkj : k = j := place_unique ps (pos := pre ps k + t) (Nat.le_add_right _ _) (by show _ < pre ps k + _; omega) (by rw [hp.s_eq]; omega) (by rw [hp.sum]; omega)
    subst hkj
    rw [hp.s_eq] at p1 p2 hold ⊢
    have hge : xs.length ≤ s + t - a := by rw [h.len]; omega
    have e1 : s + t - a - xs.length < hi - lo := by rw [h.len]; omega
    have e2 : lo + (s + t - a - xs.length) = t := by rw [h.len]; omega
    simp only [List.getD, List.getElem?_append_right hge, List.getElem?_take, if_pos e1, List.getElem?_drop, e2]

/-- append within the capacity, as one step of a region that draws: what is owned stays owned. -/
theorem step_append_fits {P : Program} {ops : Array Oper} {o : Oper} {a : Act} {w : World} {K : Act → World → Prop} {Q : Exit → Act → World → Prop} {E : Prop}
    (hg : o.guard = none) (s x : Operand) (t : TypeId) (hop : o.op = Op.call { callee := Callee.builtin Builtin.append, args := #[s, x], argTypes := #[t, t] })
    (base : Nat) (e : TypeId) (i : TypeInfo) (size : Nat) (h1 : P.underlying t = some (.slice e)) (h2 : P.info? e = some i) (h4 : i.size = size)
    (g k cap : Nat) (xs : List Value) (hs : a.eval s = .slice (some ⟨g, 0, none⟩) k cap) (hown : w.ownsRow base e size (.slice (some ⟨g, 0, none⟩) k cap) k xs)
    (ad : Addr) (m c : Nat) (news : List Value) (hx : a.eval x = .slice (some ad) m c) (hn : news.length = m * size) (hc : ∀ j u, news[j]? = some u → w.cell? (ad.add j) = some u) (h1c : ∀ u ∈ news, u.oneCell' = true) (b1 : k + m ≤ cap)
    (hK : ∀ w', w'.ownsRow base e size (.slice (some ⟨g, 0, none⟩) (k + m) cap) (k + m) (xs ++ news) → w.grownBy w' (some g) → K (a.put o.dst (.slice (some ⟨g, 0, none⟩) (k + m) cap)) w') :
    if Region.wanted o (yielded ops a.tmps) = true then Oper.wp P o a w K Q else E := by
  have hw : Region.wanted o (yielded ops a.tmps) = true := by simp [Region.wanted, hg]
  rw [if_pos hw]
  obtain ⟨w', hrun, r1, r2⟩ := run_append_fits (P := P) w base t o.type e i size h1 h2 h4 g k cap xs hown ad m c news hn hc h1c b1
  unfold Oper.wp
  simp [execOp, hop, resolve, invoke, builtin, hs, hx, hrun, Result.andThen]
  exact hK w' r1 r2

theorem Try.info5 : (Try.prog.info? 5).map (fun i => (i.zero, i.size, i.bytes)) = some (some (.int .u8 0), 1, 1) := by kernel_rfl

set_option maxHeartbeats 2000000 in
set_option maxRecDepth 100000 in
theorem slice_any (p q : Option Addr) (n c d a z : Nat) (ps : List Pc) (es : List Int) (w : World) (h : PV w p n ps) (h' : EV w q n es) (hw : WF ps es) (hn : n ≤ 1048576) (hz : z ≤ pre ps n) (haz : a ≤ z) (hb : pre ps n ≤ 1048576) :
    Calls Try.prog 11 #[.agg #[.slice p n c, .slice q n d], .int .i64 a, .int .i64 z] w fun e w' => SlicePost ps a z w e w' := by
  have H := Lib.hid h
  have H' := Lib.hid h'
  have HW := Lib.hid hw
  have hb0 : Below w.heap.size w (w.alloc (.cells #[.slice p n c, .slice q n d] 29)) := (Below.refl _ _).alloc (Nat.le_refl _) _
  have HB0 := Lib.hid hb0
  have hz2 : z ≤ 1048576 := by omega
  have HZ := Lib.hid hz
  have HBn := Lib.hid hb
  clear h h' hw hb0 hz hb
  go_enter Try.func11, Try.ntmps11
  go_wp2_with fail
  refine (search_any q n d es ((a : Int) + 1) _ (H'.out.below HB0.out) (by omega) (fun x y hxy hy => wf_sorted HW.out x y hxy (by rw [H.out.1]; exact hy))).mono ?_
  rintro e w1 ⟨i, bb, rfl, hcut, hw1⟩
  subst hw1
  have hin : i ≤ n := by have := hcut.1; rw [H'.out.1] at this; exact this
  have HC := Lib.hid hcut
  clear hcut
  by_cases hi : i = n
  · have hib : ((i : Int) == n) = true := by simp [hi]
    have haz2 : a = z := by
      have h1 := cut_lo HW.out HC.out
      rw [hi] at h1
      have := HZ.out
      omega
    have HAZ := Lib.hid haz2
    clear hi haz2
    go_wp2
    go_ret
    exact SlicePost.mk _ _ _ _ (by rw [HAZ.out, Nat.sub_self]) (fun k b _ _ h1 h2 => by have := HAZ.out; omega) (HB0.out.alloc (by simp) _)
  · have hib : ((i : Int) == n) = false := beq_eq_false_iff_ne.2 (by omega)
    have hi2 : i < n := by omega
    have h1 := cut_lo HW.out HC.out
    have h2 := cut_hi HW.out HC.out (by rw [H.out.1]; exact hi2)
    clear hi
    obtain ⟨b, off, rfl, hc⟩ := (H.out.below HB0.out).at_ hi2
    have hbB : b < w.heap.size := by
      obtain ⟨b1, off1, e1, hc1⟩ := H.out.at_ hi2
      cases e1
      exact Lib.lt_of_cell (hc1 i hi2).1
    obtain ⟨b', off', rfl, hc'⟩ := (H'.out.below HB0.out).at_ hi2
    obtain ⟨hck, hok⟩ := hc i hi2
    have hce := hc' i hi2
    have hei := (HW.out.2 i (by rw [H.out.1]; exact hi2)).2
    rw [hei] at hce
    unfold Pc.val at hck
    have hle := pre_mono ps (show i + 1 ≤ n by omega)
    have htot := HBn.out
    have hsum : pre ps (i + 1) = pre ps i + (ps.getD i pc0).n := rfl
    have hpos := (HW.out.2 i (by rw [H.out.1]; exact hi2)).1
    obtain ⟨hbl, hlc, hcm, h0 | ⟨pb, po, hpp, hcc⟩⟩ := hok
    · omega
    obtain ⟨s, hs⟩ : ∃ s, pre ps i = s := ⟨_, rfl⟩
    obtain ⟨l, hl⟩ : ∃ l, (ps.getD i pc0).n = l := ⟨_, rfl⟩
    rw [hpp, hl] at hck
    rw [hs, hl] at hsum
    rw [hsum] at hce h2 hle
    rw [hs] at h1
    rw [hl] at hlc hpos
    generalize (ps.getD i pc0).cap = sc at hck hlc hcm
    have HS := Lib.hid hs
    have HL := Lib.hid hl
    have HCC := Lib.hid hcc
    have HSum := Lib.hid hsum
    clear hc hc' hei hpp hbl hcc hs hl hsum
    have hcast : (((s + l : Nat)) : Int) = (s : Int) + l := by omega
    rw [hcast] at hce
    clear hcast
    go_wp2
    go_quiet (fail)
    by_cases hin2 : z ≤ s + l
    · go_wp2
      go_ret
      refine SlicePost.mk pb (po + (a - s)) _ _ (by omega) (fun k t hk ht p1 p2 => ?_) (below_drewN HB0.out _)
      have hki : k = i := place_unique ps (pos := pre ps k + t) (Nat.le_add_right _ _) (by show _ < pre ps k + _; omega) (by rw [HS.out]; omega) (by rw [HSum.out]; omega)
      subst hki
      rw [HS.out, show po + (a - s) + (s + t - a) = po + t by rw [HS.out] at p1; omega]
      exact HCC.out t ht
    · obtain ⟨i0, hi, hz0, hz1, hz2'⟩ := info_parts Try.info5
      go_wp2_with (at_make; refine wpList_make_own _ rfl _ _ 25 rfl (w.heap.size + 1) 5 i0 (.int .u8 0) 1 Try.underlying25 hi hz0 hz1 _ _ _ (z - a) rfl rfl (by omega) ?b2 ?b3 ?b4 ?_)
      case b2 => rw [hz2']; omega
      case b3 => unfold maxLen; omega
      case b4 => simp
      intro w3 hown3 hgrow3
      have hb3 : Below (w.heap.size + 1) (w.alloc (.cells #[.slice (some ⟨b, off, none⟩) n c, .slice (some ⟨b', off', none⟩) n d] 29)) w3 := (below_drewN (Below.refl _ _) nq).grown hgrow3 (by simp) (fun k h => by cases h)
      have HO3 : Hid (w3.ownsRow (w.heap.size + 1) 5 1 (.slice (some ⟨w.heap.size + 1, 0, none⟩) 0 (z - a)) 0 (Lib.byteCells [])) := Lib.hid hown3
      have HP : Hid (PV (w.alloc (.cells #[.slice (some ⟨b, off, none⟩) n c, .slice (some ⟨b', off', none⟩) n d] 29)) (some ⟨b, off, none⟩) n ps) := Lib.hid (H.out.below HB0.out)
      have HE : Hid (EV (w.alloc (.cells #[.slice (some ⟨b, off, none⟩) n c, .slice (some ⟨b', off', none⟩) n d] 29)) (some ⟨b', off', none⟩) n es) := Lib.hid (H'.out.below HB0.out)
      have HF0 : Hid ((w.alloc (.cells #[.slice (some ⟨b, off, none⟩) n c, .slice (some ⟨b', off', none⟩) n d] 29)).cell? ⟨w.heap.size, 0, none⟩ = some (.slice (some ⟨b, off, none⟩) n c)) := Lib.hid (by simp)
      have HF1 : Hid ((w.alloc (.cells #[.slice (some ⟨b, off, none⟩) n c, .slice (some ⟨b', off', none⟩) n d] 29)).cell? ⟨w.heap.size, 1, none⟩ = some (.slice (some ⟨b', off', none⟩) n d)) := Lib.hid (by simp)
      have HI1 : Hid (pre ps i ≤ a ∧ a < pre ps (i + 1)) := Lib.hid (by rw [HS.out, HSum.out]; omega)
      have HLen := Lib.hid H.out.1
      have hsz : (w.alloc (.cells #[.slice (some ⟨b, off, none⟩) n c, .slice (some ⟨b', off', none⟩) n d] 29)).heap.size = w.heap.size + 1 := by simp
      have HSz := Lib.hid hsz
      clear hown3 hgrow3 HS HL HCC HSum hce hck hlc hcm hsz H H' HC
      generalize w.alloc (.cells #[.slice (some ⟨b, off, none⟩) n c, .slice (some ⟨b', off', none⟩) n d] 29) = W0 at *
      go_wp2
      go_loopw [7, 10] (fun vj vo wr => ∃ (j m : Nat) (xs : List UInt8), vj = .int .i64 j ∧ vo = .slice (some ⟨w.heap.size + 1, 0, none⟩) m (z - a) ∧ i ≤ j ∧ j ≤ n ∧ m ≤ z - a ∧ Hid (Part wr (w.heap.size + 1) ps a z j m xs) ∧ Below (w.heap.size + 1) W0 wr) (fun vj _ _ => n - (intOf vj).toNat)
      case atStart => exact ⟨i, 0, [], rfl, rfl, Nat.le_refl _, by omega, Nat.zero_le _, Part.start HI1.out haz HO3.out, hb3⟩
      case round =>
        obtain ⟨j, m, xs, rfl, rfl, hij, hjn, hmz, HPt, hbr⟩ := hrel
        by_cases hm : m < z - a
        · have hj2 : j < n := HPt.out.inside HZ.out hm hjn
          obtain ⟨s, l, pb, po, sc, hpl⟩ := piece_at HP.out HW.out HSz.out hbr hj2
          have hce := entry_at HE.out HW.out HSz.out hbr hj2 hpl.sum
          have f0 := (hbr.cell (p := ⟨w.heap.size, 0, none⟩) (by show w.heap.size < w.heap.size + 1; omega)).trans HF0.out
          have f1 := (hbr.cell (p := ⟨w.heap.size, 1, none⟩) (by show w.heap.size < w.heap.size + 1; omega)).trans HF1.out
          have hck := hpl.cell
          have hpos := hpl.pos
          have hlc := hpl.lc
          have hcm := hpl.cm
          have hat := HPt.out.at_
          rw [hpl.s_eq] at hat
          have hsum := hpl.sum
          have hle := pre_mono ps (show j + 1 ≤ n by omega)
          have hia := pre_mono ps (show i + 1 ≤ j + 1 by omega)
          have hia2 := HI1.out.2
          rw [hsum] at hle hia
          have hlo : max a s < z := by omega
          have hhi : a < s + l := by omega
          have hsl : s + l ≤ 1048576 := by omega
          have HPL := Lib.hid hpl
          have HAT := Lib.hid hat
          clear hpl hsum hle hia hia2 hat HF0 HF1 HP HE
          go_wp2
          go_quiet (fail)
          go_wp2
          have f0' : (wr.drewN nq).cell? ⟨w.heap.size, 0, none⟩ = some (.slice (some ⟨b, off, none⟩) n c) := f0
          have f1' : (wr.drewN nq).cell? ⟨w.heap.size, 1, none⟩ = some (.slice (some ⟨b', off', none⟩) n d) := f1
          have hck' : (wr.drewN nq).cell? ⟨b, off + j, none⟩ = some (.slice (some ⟨pb, po, none⟩) l sc) := hck
          have HPt' : Hid (Part (wr.drewN nq) (w.heap.size + 1) ps a z j m xs) := Lib.hid ⟨HPt.out.len, HPt.out.at_, HPt.out.own, HPt.out.hold⟩
          have HPL' : Hid (PieceAt (wr.drewN nq) b off j ps s l pb po sc) := Lib.hid ⟨HPL.out.cell, HPL.out.s_eq, HPL.out.l_eq, HPL.out.sum, HPL.out.pos, HPL.out.lc, HPL.out.cm, HPL.out.blen, HPL.out.bytes⟩
          have HBR : Hid (Below (w.heap.size + 1) W0 (wr.drewN nq)) := Lib.hid (below_drewN hbr nq)
          clear f0 f1 hck HPt HPL hce hbr
          generalize wr.drewN nq = W1 at *
          obtain ⟨lo, hlo⟩ : ∃ lo : Nat, max a s = s + lo := ⟨max a s - s, by omega⟩
          obtain ⟨hi', hhi'⟩ : ∃ hi' : Nat, min z (s + l) = s + hi' := ⟨min z (s + l) - s, by omega⟩
          have hat := HAT.out
          have hlh : lo < hi' := by omega
          have hhl : hi' ≤ l := by omega
          have hm3 : a + m = s + lo := by omega
          have hm4 : s + hi' ≤ z := by omega
          obtain ⟨hn1, hc1, h1c, hr1, -⟩ := HPt'.out.room HPL'.out hlh hhl hm3 hm4
          have HN1 : Hid (((Lib.byteCells (((ps.getD j pc0).bs.drop lo).take (hi' - lo)))).length = (hi' - lo) * 1) := Lib.hid hn1
          have HC2 : Hid (∀ t u, ((Lib.byteCells (((ps.getD j pc0).bs.drop lo).take (hi' - lo))))[t]? = some u → W1.drew.cell? ((⟨pb, po + lo, none⟩ : Addr).add t) = some u) := Lib.hid hc1
          have H1C : Hid (∀ u ∈ (Lib.byteCells (((ps.getD j pc0).bs.drop lo).take (hi' - lo))), u.oneCell' = true) := Lib.hid h1c
          have HOW : Hid (W1.drew.ownsRow (w.heap.size + 1) 5 1 (.slice (some ⟨w.heap.size + 1, 0, none⟩) m (z - a)) m (Lib.byteCells xs)) := Lib.hid HPt'.out.own
          have F0 : Hid (W1.drew.cell? ⟨w.heap.size, 0, none⟩ = some (.slice (some ⟨b, off, none⟩) n c)) := Lib.hid f0'
          have FC : Hid (W1.drew.cell? ⟨b, off + j, none⟩ = some (.slice (some ⟨pb, po, none⟩) l sc)) := Lib.hid hck'
          have w1 : IntKind.i64.wrap ((a : Int) - s) = (a : Int) - s := by rw [IntKind.wrap_i64]; omega
          have w2 : IntKind.i64.wrap ((z : Int) - s) = (z : Int) - s := by rw [IntKind.wrap_i64]; omega
          have e1 : max ((a : Int) - s) 0 = (lo : Int) := by omega
          have e2 : min ((z : Int) - s) (l : Int) = (hi' : Int) := by omega
          have q1 : (lo : Int) ≤ hi' := by omega
          have q2 : (hi' : Int) ≤ sc := by omega
          have q3 : ¬ sc = lo := by omega
          have q4 : (0 : Int) ≤ lo := by omega
          have HLO := Lib.hid hlo
          have HHI := Lib.hid hhi'
          clear hn1 hc1 h1c hat hlo hhi'
          go_region_held3 (fun w' => w'.cell? ⟨w.heap.size, 0, none⟩ = some (.slice (some ⟨b, off, none⟩) n c) ∧ w'.cell? ⟨b, off + j, none⟩ = some (.slice (some ⟨pb, po, none⟩) l sc)) (first | go_keep | (exact ⟨hgrow7.cell F0.out (fun e => by have h2 : w.heap.size = w.heap.size + 1 := Option.some.inj e; omega), hgrow7.cell FC.out (fun e => by have h2 : b = w.heap.size + 1 := Option.some.inj e; omega)⟩)) ((refine step_append_fits (o := { dst := some 101, op := Op.call { callee := Callee.builtin Builtin.append, args := #[.tmp 80, .tmp 100], argTypes := #[25, 25] }, type := 25, pos := _, after := _, guard := none }) rfl (.tmp 80) (.tmp 100) 25 rfl (w.heap.size + 1) 5 i0 1 Try.underlying25 hi hz1 (w.heap.size + 1) m (z - a) (Lib.byteCells xs) (by rfl) HOW.out ⟨pb, po + lo, none⟩ (hi' - lo) (sc - lo) (Lib.byteCells (((ps.getD j pc0).bs.drop lo).take (hi' - lo))) (by rfl) HN1.out HC2.out H1C.out hr1 ?_; intro w7 hown7 hgrow7))
          all_goals
            have HPn : Hid (Part w7 (w.heap.size + 1) ps a z (j + 1) (m + (hi' - lo)) (xs ++ ((ps.getD j pc0).bs.drop lo).take (hi' - lo))) := Lib.hid (HPt'.out.next HPL'.out hlh hhl hm3 hm4 HHI.out hhi (by have := HLO.out; omega) hown7)
            have HBn : Hid (Below (w.heap.size + 1) W0 w7) := Lib.hid (HBR.out.drew.grown hgrow7 (by have := HBR.out.size; have := HSz.out; show w.heap.size + 1 ≤ W1.heap.size; omega) (fun k hk => by cases hk; exact Nat.le_refl _))
            clear hown7 hgrow7 HPt' HPL' HBR HN1 HC2 H1C HOW F0 FC f0' f1' hck' e1 e2 w1 w2
            go_wp2
            go_roundw
            case rel => exact ⟨j + 1, m + (hi' - lo), _, by go_num, rfl, by omega, by omega, by omega, HPn, HBn.out⟩
            case measure => simp [intOf]; omega
        · have hme : m = z - a := by omega
          have HR : Hid (Reads wr (w.heap.size + 1) 0 ps a z) := Lib.hid (HPt.out.reads hme HLen.out)
          have HB : Hid (Below w.heap.size w wr) := Lib.hid (HB0.out.trans (hbr.mono (by omega)))
          clear HPt hbr
          go_wp2
          go_ret
          exact SlicePost.mk _ _ _ _ hme HR.out HB.out

end Go.Proofs.Qxb6619618a
