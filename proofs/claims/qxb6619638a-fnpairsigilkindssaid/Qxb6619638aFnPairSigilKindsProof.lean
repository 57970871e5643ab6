/-
  FnPairSigilKinds: the walks, then the row. The frame is the guide's own shell (proof-skeleton.mjs).
-/
import Derived.Test.Qxb6619638aRows
import Derived.WalkKit
import Derived.ProofKit
import Derived.OpenShut
import Derived.ShutString
namespace Go.Proofs.Qxb6619638a.fnPairSigilKinds
open Go.ChangeShapes Go.WideShapes Go.ChangeAt Go.RowKit
open Go.ChangeMaps (open_string shut_string)
set_option linter.unusedVariables false      -- a walk need not use every 'w<i>' (that an integer argument fits its kind)

theorem own : ownKnob Try.prog.godebug = none := by kernel_rfl

/-- The kind that two bytes make. -/
def sig (a b : Int) : Int := if a = 60 ∧ b = 60 then 13 else if a = 62 ∧ b = 62 then 14 else if a = 45 ∧ b = 62 then 15 else 0

theorem ret_int {k : IntKind} {a b : Int} (h : a = b) : Ending.returned (.int k a) = .returned (.int k b) := by rw [h]

set_option maxHeartbeats 1000000 in
theorem pair_any (a b : Int) (w : World) (a0 : 0 ≤ a) (a1 : a ≤ 255) (b0 : 0 ≤ b) (b1 : b ≤ 255) :
    Calls Try.prog 6 #[.int .u8 a, .int .u8 b] w fun e w' => e = .returned (.int .i64 (sig a b)) ∧ w' = w := by
  by_cases h1 : a = 60
  · subst h1
    by_cases h2 : b = 60
    · subst h2
      go_enter Try.func6, Try.ntmps6
      go_wp2
      go_ret
      exact ⟨rfl, rfl⟩
    · have t2 : (b == 60) = false := beq_eq_false_iff_ne.2 h2
      have e : sig 60 b = 0 := by unfold sig; rw [if_neg (by omega), if_neg (by omega), if_neg (by omega)]
      rw [e]
      clear h2 e
      go_enter Try.func6, Try.ntmps6
      go_wp2
      go_ret
      exact ⟨rfl, rfl⟩
  · have t1 : (a == 60) = false := beq_eq_false_iff_ne.2 h1
    by_cases h3 : a = 62
    · subst h3
      by_cases h2 : b = 62
      · subst h2
        clear h1 t1
        go_enter Try.func6, Try.ntmps6
        go_wp2
        go_ret
        exact ⟨rfl, rfl⟩
      · have t2 : (b == 62) = false := beq_eq_false_iff_ne.2 h2
        have e : sig 62 b = 0 := by unfold sig; rw [if_neg (by omega), if_neg (by omega), if_neg (by omega)]
        rw [e]
        clear h1 h2 e t1
        go_enter Try.func6, Try.ntmps6
        go_wp2
        go_ret
        exact ⟨rfl, rfl⟩
    · have t3 : (a == 62) = false := beq_eq_false_iff_ne.2 h3
      by_cases h4 : a = 45
      · subst h4
        by_cases h2 : b = 62
        · subst h2
          clear h1 h3 t1 t3
          go_enter Try.func6, Try.ntmps6
          go_wp2
          go_ret
          exact ⟨rfl, rfl⟩
        · have t2 : (b == 62) = false := beq_eq_false_iff_ne.2 h2
          have e : sig 45 b = 0 := by unfold sig; rw [if_neg (by omega), if_neg (by omega), if_neg (by omega)]
          rw [e]
          clear h1 h3 h2 e t1 t3
          go_enter Try.func6, Try.ntmps6
          go_wp2
          go_ret
          exact ⟨rfl, rfl⟩
      · have t4 : (a == 45) = false := beq_eq_false_iff_ne.2 h4
        have e : sig a b = 0 := by unfold sig; rw [if_neg (by omega), if_neg (by omega), if_neg (by omega)]
        rw [e]
        clear h1 h3 h4 e
        go_enter Try.func6, Try.ntmps6
        go_wp2
        go_ret
        exact ⟨rfl, rfl⟩

set_option maxHeartbeats 400000 in
theorem zz_any (a b k : Int) (w : World) (a0 : 0 ≤ a) (a1 : a ≤ 255) (b0 : 0 ≤ b) (b1 : b ≤ 255) (h : sig a b = k) :
    Calls Try.prog 4 #[.int .u8 a, .int .u8 b] w fun e w' => e = .returned (.int .i64 k) ∧ w' = w := by
  subst h
  go_enter Try.func4, Try.ntmps4
  go_wp2_with fail
  refine (pair_any a b _ a0 a1 b0 b1).mono ?_
  rintro e w' ⟨rfl, rfl⟩
  go_wp2
  go_ret
  exact ⟨rfl, rfl⟩

set_option maxHeartbeats 1000000 in
theorem prec13 (w : World) : Calls Try.prog 5 #[.int .i64 13] w fun e w' => e = .returned (.int .i64 4) ∧ w' = w := by
  go_enter Try.func5, Try.ntmps5
  go_wp2
  go_ret
  exact ⟨rfl, rfl⟩
set_option maxHeartbeats 1000000 in
theorem prec14 (w : World) : Calls Try.prog 5 #[.int .i64 14] w fun e w' => e = .returned (.int .i64 4) ∧ w' = w := by
  go_enter Try.func5, Try.ntmps5
  go_wp2
  go_ret
  exact ⟨rfl, rfl⟩
set_option maxHeartbeats 1000000 in
theorem prec15 (w : World) : Calls Try.prog 5 #[.int .i64 15] w fun e w' => e = .returned (.int .i64 0) ∧ w' = w := by
  go_enter Try.func5, Try.ntmps5
  go_wp2
  go_ret
  exact ⟨rfl, rfl⟩
set_option maxHeartbeats 1000000 in
theorem prec0 (w : World) : Calls Try.prog 5 #[.int .i64 0] w fun e w' => e = .returned (.int .i64 0) ∧ w' = w := by
  go_enter Try.func5, Try.ntmps5
  go_wp2
  go_ret
  exact ⟨rfl, rfl⟩

theorem u8_bd (n : Int) (h : (Lit.int .u8 n).wf = true) : 0 ≤ n ∧ n ≤ 255 := by
  have h1 : IntKind.u8.min = 0 := rfl
  have h2 : IntKind.u8.max = 255 := rfl
  simp only [Lit.wf, Bool.and_eq_true, decide_eq_true_eq, h1, h2] at h
  omega

set_option maxHeartbeats 1000000 in
theorem walk_ll_same (w : World) :
    Calls Try.prog 3 #[.int .u8 60, .int .u8 60, .int .u8 60, .int .u8 60] w fun e w' => e = .returned (.bool true) ∧ Grown w w' := by
  go_enter Try.func3, Try.ntmps3
  go_wp2_with fail
  refine (zz_any 60 60 13 _ (by omega) (by omega) (by omega) (by omega) (by decide)).mono ?_
  rintro e w1 ⟨rfl, rfl⟩
  go_wp2_with fail
  refine (zz_any 60 60 13 _ (by omega) (by omega) (by omega) (by omega) (by decide)).mono ?_
  rintro e w1 ⟨rfl, rfl⟩
  go_wp2_with fail
  refine (zz_any 60 60 13 _ (by omega) (by omega) (by omega) (by omega) (by decide)).mono ?_
  rintro e w1 ⟨rfl, rfl⟩
  go_wp2_with (go_at_call 5; refine (prec13 _).mono ?_; rintro e w1 ⟨rfl, rfl⟩)
  go_ret
  exact ⟨rfl, Grown.refl _⟩

set_option maxHeartbeats 1000000 in
theorem walk_ll (c d o : Int) (c0 : 0 ≤ c) (c1 : c ≤ 255) (d0 : 0 ≤ d) (d1 : d ≤ 255) (ho : sig c d = o) (hko : ((13 : Int) == o) = false) (w : World) :
    Calls Try.prog 3 #[.int .u8 60, .int .u8 60, .int .u8 c, .int .u8 d] w fun e w' => e = .returned (.bool true) ∧ Grown w w' := by
  have HO : Hid (sig c d = o) := ho
  clear ho
  go_enter Try.func3, Try.ntmps3
  go_wp2_with fail
  refine (zz_any 60 60 13 _ (by omega) (by omega) (by omega) (by omega) (by decide)).mono ?_
  rintro e w1 ⟨rfl, rfl⟩
  go_wp2_with fail
  refine (zz_any 60 60 13 _ (by omega) (by omega) (by omega) (by omega) (by decide)).mono ?_
  rintro e w1 ⟨rfl, rfl⟩
  go_wp2_with fail
  refine (zz_any c d o _ c0 c1 d0 d1 HO.out).mono ?_
  rintro e w1 ⟨rfl, rfl⟩
  go_wp2_with (go_at_call 5; refine (prec13 _).mono ?_; rintro e w1 ⟨rfl, rfl⟩)
  go_ret
  exact ⟨rfl, Grown.refl _⟩

set_option maxHeartbeats 1000000 in
theorem walk_gg_same (w : World) :
    Calls Try.prog 3 #[.int .u8 62, .int .u8 62, .int .u8 62, .int .u8 62] w fun e w' => e = .returned (.bool true) ∧ Grown w w' := by
  go_enter Try.func3, Try.ntmps3
  go_wp2_with fail
  refine (zz_any 62 62 14 _ (by omega) (by omega) (by omega) (by omega) (by decide)).mono ?_
  rintro e w1 ⟨rfl, rfl⟩
  go_wp2_with fail
  refine (zz_any 62 62 14 _ (by omega) (by omega) (by omega) (by omega) (by decide)).mono ?_
  rintro e w1 ⟨rfl, rfl⟩
  go_wp2_with fail
  refine (zz_any 62 62 14 _ (by omega) (by omega) (by omega) (by omega) (by decide)).mono ?_
  rintro e w1 ⟨rfl, rfl⟩
  go_wp2_with (go_at_call 5; refine (prec14 _).mono ?_; rintro e w1 ⟨rfl, rfl⟩)
  go_ret
  exact ⟨rfl, Grown.refl _⟩

set_option maxHeartbeats 1000000 in
theorem walk_gg (c d o : Int) (c0 : 0 ≤ c) (c1 : c ≤ 255) (d0 : 0 ≤ d) (d1 : d ≤ 255) (ho : sig c d = o) (hko : ((14 : Int) == o) = false) (w : World) :
    Calls Try.prog 3 #[.int .u8 62, .int .u8 62, .int .u8 c, .int .u8 d] w fun e w' => e = .returned (.bool true) ∧ Grown w w' := by
  have HO : Hid (sig c d = o) := ho
  clear ho
  go_enter Try.func3, Try.ntmps3
  go_wp2_with fail
  refine (zz_any 62 62 14 _ (by omega) (by omega) (by omega) (by omega) (by decide)).mono ?_
  rintro e w1 ⟨rfl, rfl⟩
  go_wp2_with fail
  refine (zz_any 62 62 14 _ (by omega) (by omega) (by omega) (by omega) (by decide)).mono ?_
  rintro e w1 ⟨rfl, rfl⟩
  go_wp2_with fail
  refine (zz_any c d o _ c0 c1 d0 d1 HO.out).mono ?_
  rintro e w1 ⟨rfl, rfl⟩
  go_wp2_with (go_at_call 5; refine (prec14 _).mono ?_; rintro e w1 ⟨rfl, rfl⟩)
  go_ret
  exact ⟨rfl, Grown.refl _⟩

set_option maxHeartbeats 1000000 in
theorem walk_ar_same (w : World) :
    Calls Try.prog 3 #[.int .u8 45, .int .u8 62, .int .u8 45, .int .u8 62] w fun e w' => e = .returned (.bool true) ∧ Grown w w' := by
  go_enter Try.func3, Try.ntmps3
  go_wp2_with fail
  refine (zz_any 45 62 15 _ (by omega) (by omega) (by omega) (by omega) (by decide)).mono ?_
  rintro e w1 ⟨rfl, rfl⟩
  go_wp2_with fail
  refine (zz_any 62 45 0 _ (by omega) (by omega) (by omega) (by omega) (by decide)).mono ?_
  rintro e w1 ⟨rfl, rfl⟩
  go_wp2_with fail
  refine (zz_any 45 62 15 _ (by omega) (by omega) (by omega) (by omega) (by decide)).mono ?_
  rintro e w1 ⟨rfl, rfl⟩
  go_wp2_with (go_at_call 5; refine (prec15 _).mono ?_; rintro e w1 ⟨rfl, rfl⟩)
  go_ret
  exact ⟨rfl, Grown.refl _⟩

set_option maxHeartbeats 1000000 in
theorem walk_ar (c d o : Int) (c0 : 0 ≤ c) (c1 : c ≤ 255) (d0 : 0 ≤ d) (d1 : d ≤ 255) (ho : sig c d = o) (hko : ((15 : Int) == o) = false) (w : World) :
    Calls Try.prog 3 #[.int .u8 45, .int .u8 62, .int .u8 c, .int .u8 d] w fun e w' => e = .returned (.bool true) ∧ Grown w w' := by
  have HO : Hid (sig c d = o) := ho
  clear ho
  go_enter Try.func3, Try.ntmps3
  go_wp2_with fail
  refine (zz_any 45 62 15 _ (by omega) (by omega) (by omega) (by omega) (by decide)).mono ?_
  rintro e w1 ⟨rfl, rfl⟩
  go_wp2_with fail
  refine (zz_any 62 45 0 _ (by omega) (by omega) (by omega) (by omega) (by decide)).mono ?_
  rintro e w1 ⟨rfl, rfl⟩
  go_wp2_with fail
  refine (zz_any c d o _ c0 c1 d0 d1 HO.out).mono ?_
  rintro e w1 ⟨rfl, rfl⟩
  go_wp2_with (go_at_call 5; refine (prec15 _).mono ?_; rintro e w1 ⟨rfl, rfl⟩)
  go_ret
  exact ⟨rfl, Grown.refl _⟩

set_option maxHeartbeats 1000000 in
theorem walk_rev (c d o : Int) (c0 : 0 ≤ c) (c1 : c ≤ 255) (d0 : 0 ≤ d) (d1 : d ≤ 255) (ho : sig c d = o) (w : World) :
    Calls Try.prog 3 #[.int .u8 62, .int .u8 45, .int .u8 c, .int .u8 d] w fun e w' => e = .returned (.bool true) ∧ Grown w w' := by
  have HO : Hid (sig c d = o) := ho
  clear ho
  go_enter Try.func3, Try.ntmps3
  go_wp2_with fail
  refine (zz_any 62 45 0 _ (by omega) (by omega) (by omega) (by omega) (by decide)).mono ?_
  rintro e w1 ⟨rfl, rfl⟩
  go_wp2_with fail
  refine (zz_any 45 62 15 _ (by omega) (by omega) (by omega) (by omega) (by decide)).mono ?_
  rintro e w1 ⟨rfl, rfl⟩
  go_wp2_with fail
  refine (zz_any c d o _ c0 c1 d0 d1 HO.out).mono ?_
  rintro e w1 ⟨rfl, rfl⟩
  go_wp2_with (go_at_call 5; refine (prec0 _).mono ?_; rintro e w1 ⟨rfl, rfl⟩)
  go_ret
  exact ⟨rfl, Grown.refl _⟩

set_option maxHeartbeats 1000000 in
theorem walk_60 (b : Int) (b0 : 0 ≤ b) (b1 : b ≤ 255) (c d o : Int) (c0 : 0 ≤ c) (c1 : c ≤ 255) (d0 : 0 ≤ d) (d1 : d ≤ 255) (ho : sig c d = o) (hb : ¬ b = 60) (t1 : ((60 : Int) == b) = false) (w : World) :
    Calls Try.prog 3 #[.int .u8 60, .int .u8 b, .int .u8 c, .int .u8 d] w fun e w' => e = .returned (.bool true) ∧ Grown w w' := by
  have HO : Hid (sig c d = o) := ho
  clear ho
  go_enter Try.func3, Try.ntmps3
  go_wp2_with fail
  refine (zz_any 60 b 0 _ (by omega) (by omega) (by omega) (by omega) (by unfold sig; rw [if_neg (by omega), if_neg (by omega), if_neg (by omega)])).mono ?_
  rintro e w1 ⟨rfl, rfl⟩
  go_wp2_with fail
  refine (zz_any b 60 0 _ (by omega) (by omega) (by omega) (by omega) (by unfold sig; rw [if_neg (by omega), if_neg (by omega), if_neg (by omega)])).mono ?_
  rintro e w1 ⟨rfl, rfl⟩
  go_wp2_with fail
  refine (zz_any c d o _ c0 c1 d0 d1 HO.out).mono ?_
  rintro e w1 ⟨rfl, rfl⟩
  go_wp2_with (go_at_call 5; refine (prec0 _).mono ?_; rintro e w1 ⟨rfl, rfl⟩)
  go_ret
  exact ⟨rfl, Grown.refl _⟩

set_option maxHeartbeats 1000000 in
theorem walk_62 (b : Int) (b0 : 0 ≤ b) (b1 : b ≤ 255) (c d o : Int) (c0 : 0 ≤ c) (c1 : c ≤ 255) (d0 : 0 ≤ d) (d1 : d ≤ 255) (ho : sig c d = o) (hb : ¬ b = 62) (hb2 : ¬ b = 45) (t1 : ((62 : Int) == b) = false) (t2 : (b == 45) = false) (w : World) :
    Calls Try.prog 3 #[.int .u8 62, .int .u8 b, .int .u8 c, .int .u8 d] w fun e w' => e = .returned (.bool true) ∧ Grown w w' := by
  have HO : Hid (sig c d = o) := ho
  clear ho
  go_enter Try.func3, Try.ntmps3
  go_wp2_with fail
  refine (zz_any 62 b 0 _ (by omega) (by omega) (by omega) (by omega) (by unfold sig; rw [if_neg (by omega), if_neg (by omega), if_neg (by omega)])).mono ?_
  rintro e w1 ⟨rfl, rfl⟩
  go_wp2_with fail
  refine (zz_any b 62 0 _ (by omega) (by omega) (by omega) (by omega) (by unfold sig; rw [if_neg (by omega), if_neg (by omega), if_neg (by omega)])).mono ?_
  rintro e w1 ⟨rfl, rfl⟩
  go_wp2_with fail
  refine (zz_any c d o _ c0 c1 d0 d1 HO.out).mono ?_
  rintro e w1 ⟨rfl, rfl⟩
  go_wp2_with (go_at_call 5; refine (prec0 _).mono ?_; rintro e w1 ⟨rfl, rfl⟩)
  go_ret
  exact ⟨rfl, Grown.refl _⟩

set_option maxHeartbeats 1000000 in
theorem walk_45_45 (c d o : Int) (c0 : 0 ≤ c) (c1 : c ≤ 255) (d0 : 0 ≤ d) (d1 : d ≤ 255) (ho : sig c d = o) (w : World) :
    Calls Try.prog 3 #[.int .u8 45, .int .u8 45, .int .u8 c, .int .u8 d] w fun e w' => e = .returned (.bool true) ∧ Grown w w' := by
  have HO : Hid (sig c d = o) := ho
  clear ho
  go_enter Try.func3, Try.ntmps3
  go_wp2_with fail
  refine (zz_any 45 45 0 _ (by omega) (by omega) (by omega) (by omega) (by unfold sig; rw [if_neg (by omega), if_neg (by omega), if_neg (by omega)])).mono ?_
  rintro e w1 ⟨rfl, rfl⟩
  go_wp2_with fail
  refine (zz_any 45 45 0 _ (by omega) (by omega) (by omega) (by omega) (by unfold sig; rw [if_neg (by omega), if_neg (by omega), if_neg (by omega)])).mono ?_
  rintro e w1 ⟨rfl, rfl⟩
  go_wp2_with fail
  refine (zz_any c d o _ c0 c1 d0 d1 HO.out).mono ?_
  rintro e w1 ⟨rfl, rfl⟩
  go_wp2_with (go_at_call 5; refine (prec0 _).mono ?_; rintro e w1 ⟨rfl, rfl⟩)
  go_ret
  exact ⟨rfl, Grown.refl _⟩

set_option maxHeartbeats 1000000 in
theorem walk_45 (b : Int) (b0 : 0 ≤ b) (b1 : b ≤ 255) (c d o : Int) (c0 : 0 ≤ c) (c1 : c ≤ 255) (d0 : 0 ≤ d) (d1 : d ≤ 255) (ho : sig c d = o) (hb : ¬ b = 62) (t2 : (b == 62) = false) (t3 : ((45 : Int) == b) = false) (w : World) :
    Calls Try.prog 3 #[.int .u8 45, .int .u8 b, .int .u8 c, .int .u8 d] w fun e w' => e = .returned (.bool true) ∧ Grown w w' := by
  have HO : Hid (sig c d = o) := ho
  clear ho
  go_enter Try.func3, Try.ntmps3
  go_wp2_with fail
  refine (zz_any 45 b 0 _ (by omega) (by omega) (by omega) (by omega) (by unfold sig; rw [if_neg (by omega), if_neg (by omega), if_neg (by omega)])).mono ?_
  rintro e w1 ⟨rfl, rfl⟩
  go_wp2_with fail
  refine (zz_any b 45 0 _ (by omega) (by omega) (by omega) (by omega) (by unfold sig; rw [if_neg (by omega), if_neg (by omega), if_neg (by omega)])).mono ?_
  rintro e w1 ⟨rfl, rfl⟩
  go_wp2_with fail
  refine (zz_any c d o _ c0 c1 d0 d1 HO.out).mono ?_
  rintro e w1 ⟨rfl, rfl⟩
  go_wp2_with (go_at_call 5; refine (prec0 _).mono ?_; rintro e w1 ⟨rfl, rfl⟩)
  go_ret
  exact ⟨rfl, Grown.refl _⟩

set_option maxHeartbeats 1000000 in
theorem walk_else_same (a : Int) (a0 : 0 ≤ a) (a1 : a ≤ 255) (c d o : Int) (c0 : 0 ≤ c) (c1 : c ≤ 255) (d0 : 0 ≤ d) (d1 : d ≤ 255) (ho : sig c d = o) (h1 : ¬ a = 60) (h2 : ¬ a = 62) (h3 : ¬ a = 45) (t1 : (a == 60) = false) (t2 : (a == 62) = false) (t3 : (a == 45) = false) (w : World) :
    Calls Try.prog 3 #[.int .u8 a, .int .u8 a, .int .u8 c, .int .u8 d] w fun e w' => e = .returned (.bool true) ∧ Grown w w' := by
  have HO : Hid (sig c d = o) := ho
  clear ho
  go_enter Try.func3, Try.ntmps3
  go_wp2_with fail
  refine (zz_any a a 0 _ (by omega) (by omega) (by omega) (by omega) (by unfold sig; rw [if_neg (by omega), if_neg (by omega), if_neg (by omega)])).mono ?_
  rintro e w1 ⟨rfl, rfl⟩
  go_wp2_with fail
  refine (zz_any a a 0 _ (by omega) (by omega) (by omega) (by omega) (by unfold sig; rw [if_neg (by omega), if_neg (by omega), if_neg (by omega)])).mono ?_
  rintro e w1 ⟨rfl, rfl⟩
  go_wp2_with fail
  refine (zz_any c d o _ c0 c1 d0 d1 HO.out).mono ?_
  rintro e w1 ⟨rfl, rfl⟩
  go_wp2_with (go_at_call 5; refine (prec0 _).mono ?_; rintro e w1 ⟨rfl, rfl⟩)
  go_ret
  exact ⟨rfl, Grown.refl _⟩

set_option maxHeartbeats 1000000 in
theorem walk_else (a : Int) (a0 : 0 ≤ a) (a1 : a ≤ 255) (b : Int) (b0 : 0 ≤ b) (b1 : b ≤ 255) (c d o : Int) (c0 : 0 ≤ c) (c1 : c ≤ 255) (d0 : 0 ≤ d) (d1 : d ≤ 255) (ho : sig c d = o) (h1 : ¬ a = 60) (h2 : ¬ a = 62) (h3 : ¬ a = 45) (t1 : (a == 60) = false) (t2 : (a == 62) = false) (t3 : (a == 45) = false) (t4 : (a == b) = false) (w : World) :
    Calls Try.prog 3 #[.int .u8 a, .int .u8 b, .int .u8 c, .int .u8 d] w fun e w' => e = .returned (.bool true) ∧ Grown w w' := by
  have HO : Hid (sig c d = o) := ho
  clear ho
  go_enter Try.func3, Try.ntmps3
  go_wp2_with fail
  refine (zz_any a b 0 _ (by omega) (by omega) (by omega) (by omega) (by unfold sig; rw [if_neg (by omega), if_neg (by omega), if_neg (by omega)])).mono ?_
  rintro e w1 ⟨rfl, rfl⟩
  go_wp2_with fail
  refine (zz_any b a 0 _ (by omega) (by omega) (by omega) (by omega) (by unfold sig; rw [if_neg (by omega), if_neg (by omega), if_neg (by omega)])).mono ?_
  rintro e w1 ⟨rfl, rfl⟩
  go_wp2_with fail
  refine (zz_any c d o _ c0 c1 d0 d1 HO.out).mono ?_
  rintro e w1 ⟨rfl, rfl⟩
  go_wp2_with (go_at_call 5; refine (prec0 _).mono ?_; rintro e w1 ⟨rfl, rfl⟩)
  go_ret
  exact ⟨rfl, Grown.refl _⟩

theorem walk (a0 : Int) (a1 : Int) (a2 : Int) (a3 : Int) (w0 : (Lit.int .u8 a0).wf = true) (w1 : (Lit.int .u8 a1).wf = true) (w2 : (Lit.int .u8 a2).wf = true) (w3 : (Lit.int .u8 a3).wf = true) (w : World) :
    Calls Try.prog 3 #[.int .u8 a0, .int .u8 a1, .int .u8 a2, .int .u8 a3] w fun e w' => e = .returned (.bool true) ∧ Grown w w' := by
  obtain ⟨p0, q0⟩ := u8_bd a0 w0
  obtain ⟨p1, q1⟩ := u8_bd a1 w1
  obtain ⟨p2, q2⟩ := u8_bd a2 w2
  obtain ⟨p3, q3⟩ := u8_bd a3 w3
  clear w0 w1 w2 w3
  by_cases h60 : a0 = 60
  · subst h60
    by_cases hb : a1 = 60
    · subst hb
      by_cases hs : a2 = 60 ∧ a3 = 60
      · obtain ⟨rfl, rfl⟩ := hs
        exact walk_ll_same w
      · exact walk_ll a2 a3 _ p2 q2 p3 q3 rfl (by unfold sig; rw [if_neg hs]; split <;> (try split) <;> decide) w
    · exact walk_60 a1 p1 q1 a2 a3 _ p2 q2 p3 q3 rfl hb (beq_eq_false_iff_ne.2 (fun e => hb e.symm)) w
  by_cases h62 : a0 = 62
  · subst h62
    by_cases hb : a1 = 62
    · subst hb
      by_cases hs : a2 = 62 ∧ a3 = 62
      · obtain ⟨rfl, rfl⟩ := hs
        exact walk_gg_same w
      · exact walk_gg a2 a3 _ p2 q2 p3 q3 rfl (by unfold sig; rw [if_neg hs]; split <;> (try split) <;> decide) w
    · by_cases hb2 : a1 = 45
      · subst hb2
        exact walk_rev a2 a3 _ p2 q2 p3 q3 rfl w
      · exact walk_62 a1 p1 q1 a2 a3 _ p2 q2 p3 q3 rfl hb hb2 (beq_eq_false_iff_ne.2 (fun e => hb e.symm)) (beq_eq_false_iff_ne.2 hb2) w
  by_cases h45 : a0 = 45
  · subst h45
    by_cases hb : a1 = 62
    · subst hb
      by_cases hs : a2 = 45 ∧ a3 = 62
      · obtain ⟨rfl, rfl⟩ := hs
        exact walk_ar_same w
      · exact walk_ar a2 a3 _ p2 q2 p3 q3 rfl (by unfold sig; rw [if_neg hs]; split <;> (try split) <;> decide) w
    · by_cases hb2 : a1 = 45
      · subst hb2
        exact walk_45_45 a2 a3 _ p2 q2 p3 q3 rfl w
      · exact walk_45 a1 p1 q1 a2 a3 _ p2 q2 p3 q3 rfl hb (beq_eq_false_iff_ne.2 hb) (beq_eq_false_iff_ne.2 (fun e => hb2 e.symm)) w
  by_cases hab : a0 = a1
  · subst hab
    exact walk_else_same a0 p0 q0 a2 a3 _ p2 q2 p3 q3 rfl h60 h62 h45 (beq_eq_false_iff_ne.2 h60) (beq_eq_false_iff_ne.2 h62) (beq_eq_false_iff_ne.2 h45) w
  exact walk_else a0 p0 q0 a1 p1 q1 a2 a3 _ p2 q2 p3 q3 rfl h60 h62 h45 (beq_eq_false_iff_ne.2 h60) (beq_eq_false_iff_ne.2 h62) (beq_eq_false_iff_ne.2 h45) (beq_eq_false_iff_ne.2 hab) w

/-! ### THE ROW's STEP: WRITTEN OUT: LEAVE IT -/
set_option maxRecDepth 100000 in
theorem lifted (os : Os) (started : os.Started) (H : Type) (enc : TypeId × Value → H) :
    ReturnsInHanded {} Try.checked os 3 .any (Rows.fnPairSigilKindsSpec.pre6 enc Try.prog Try.f3 Rows.fnPairSigilKindsRow.domain false) (Rows.fnPairSigilKindsSpec.post enc Try.prog Try.f3 false true false false) := by
  refine returnsInHanded_of_change (C := Try.checked) own started (by kernel_rfl) Try.func3
    (ChangeSpec.witness6 (enc := enc) (C := Try.checked) false ⟨#[], #[.int .u8 0, .int .u8 0, .int .u8 0, .int .u8 0], []⟩ 8 (by kernel_rfl) (by kernel_rfl) (by kernel_rfl) (by kernel_rfl)) ?_
  intro W base args ds gs before hval0 hW hcnd _
  have hval : ∀ (j : Nat) t v, Try.f3.params[j]? = some t → args[j]? = some v → Value.okWide Try.prog W .any base t v := hval0
  have hW' := hW
  obtain ⟨p, q, hA0, hV, rfl, hfz, hnd⟩ := hW
  have hA : DataW.TrodAll enc Try.prog W 0 (fun _ => true) true Try.f3.params.toList args.toList ds p := hA0
  rw [Try.params3] at hA hval
  obtain ⟨v0, vs0, d0, ds0, p0, q0, hargs, rfl, rfl, h0, r0⟩ := trodAll_cons hA
  obtain ⟨v1, vs1, d1, ds1, p1, q1, rfl, rfl, rfl, h1, r1⟩ := trodAll_cons r0
  obtain ⟨v2, vs2, d2, ds2, p2, q2, rfl, rfl, rfl, h2, r2⟩ := trodAll_cons r1
  obtain ⟨v3, vs3, d3, ds3, p3, q3, rfl, rfl, rfl, h3, r3⟩ := trodAll_cons r2
  obtain ⟨rfl, rfl, rfl⟩ := trodAll_nil r3
  obtain rfl : args = #[v0, v1, v2, v3] := by cases args; simp_all
  obtain ⟨rfl, rfl⟩ := trodVars_none hV
  obtain ⟨a0, rfl, rfl, rfl, w0⟩ := open_int Try.underlying5 (hval 0 5 v0 rfl rfl) h0
  obtain ⟨a1, rfl, rfl, rfl, w1⟩ := open_int Try.underlying5 (hval 1 5 v1 rfl rfl) h1
  obtain ⟨a2, rfl, rfl, rfl, w2⟩ := open_int Try.underlying5 (hval 2 5 v2 rfl rfl) h2
  obtain ⟨a3, rfl, rfl, rfl, w3⟩ := open_int Try.underlying5 (hval 3 5 v3 rfl rfl) h3
  clear hA0 hval0
  simp only [List.append_nil] at hW'
  refine (walk a0 a1 a2 a3 w0 w1 w2 w3 W).mono fun e W' ⟨he, hg⟩ => ?_
  subst he
  exact ⟨_, rfl, post_of_same (pa := []) (pv := []) hW' (fun _ _ _ => (trodAll_cons_mk (shut_bool Try.underlying4 _) trodAll_mk0)) (fun sp _ => (trodAll_cons_mk (shut_int Try.underlying5 w0) (trodAll_cons_mk (shut_int Try.underlying5 w1) (trodAll_cons_mk (shut_int Try.underlying5 w2) (trodAll_cons_mk (shut_int Try.underlying5 w3) trodAll_mk0))))) (fun _ _ => rfl) rfl
    (hg.frame _) hg.2.1 (ok_one (by kernel_rfl) rfl (okWide_bool_mk Try.underlying4 _))⟩

theorem over : Rows.fnPairSigilKindsRow.holds Try.pinned (OpenSpec.ofChange Rows.fnPairSigilKindsSpec) :=
  OpenClaim.holds_of_wide 3 Try.f3 rfl rfl rfl rfl rfl rfl rfl ⟨rfl, rfl, rfl, rfl, rfl⟩ rfl rfl rfl rfl rfl (by kernel_rfl) Try.func3 (by kernel_rfl)
    (of_decide_eq_true (by kernel_rfl)) (by unfold Func.isWrapper; first | (rw [if_pos (by decide +kernel)]; kernel_rfl) | (rw [if_neg (by decide +kernel)]; exact ⟨rfl, rfl⟩))
    (fun os started H enc _ => lifted os started H enc)

/-- ████ THE STATEMENT ████ -/
theorem proved : Rows.FnPairSigilKindsSaid :=
  over
end Go.Proofs.Qxb6619638a.fnPairSigilKinds
