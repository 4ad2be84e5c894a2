/-
  cmp.Compare at three types, cmpIntB1, cmpFloatB1, cmp.Or at six numbers, walked; the plain law: the order is antisymmetric.
-/
import Derived.Test.Qxb6614596aRows
import Derived.WalkKit
import Derived.WalkSpells
import Derived.WalkLawsBesides
import Derived.Lib.Hide
namespace Go.Proofs.Qxb6614596a
open Go.RowKit
set_option linter.unusedVariables false

/-- How two integers compare. -/
def cmpI (x y : Int) : Int := if x < y then -1 else if y < x then 1 else 0
/-- How two floats compare: not-a-numbers below all, and equal to each other. -/
def cmpF (x y : Nat) : Int :=
  if (FloatKind.f64.format.order x x != some .eq) = true then (if (FloatKind.f64.format.order y y != some .eq) = true then 0 else -1)
  else if (FloatKind.f64.format.order y y != some .eq) = true then 1
  else if (FloatKind.f64.format.order x y == some .lt) = true then -1
  else if (FloatKind.f64.format.order x y == some .gt) = true then 1
  else 0

theorem datum_swap (a b : Ieee.Datum) : b.order a = (a.order b).map Ordering.swap := by
  cases a with
  | number s m i =>
    cases b with
    | number t n j =>
      simp only [Ieee.Datum.order, Option.map_some]
      rw [Int.min_comm j i, Int.compare_swap]
    | infinity t => cases t <;> rfl
    | _ => rfl
  | infinity s =>
    cases b with
    | number t n j => cases s <;> rfl
    | infinity t => cases s <;> cases t <;> rfl
    | _ => rfl
  | _ => cases b <;> rfl

theorem order_swap (x y : Nat) : FloatKind.f64.format.order y x = (FloatKind.f64.format.order x y).map Ordering.swap := datum_swap _ _

theorem cmpI_swap (x y : Int) : cmpI y x = - cmpI x y := by
  unfold cmpI
  split <;> split <;> (try split) <;> omega

theorem cmpF_swap (x y : Nat) : cmpF y x = - cmpF x y := by
  unfold cmpF
  rw [order_swap x y]
  cases hx : (FloatKind.f64.format.order x x != some .eq) <;> cases hy : (FloatKind.f64.format.order y y != some .eq) <;> simp
  cases ho : FloatKind.f64.format.order x y with
  | none => simp
  | some o => cases o <;> simp

/-- The first of six numbers that is not 0, else 0. -/
def cor (a b c d e f : Int) : Int := if a ≠ 0 then a else if b ≠ 0 then b else if c ≠ 0 then c else if d ≠ 0 then d else if e ≠ 0 then e else f

theorem cor_neg (a b c d e f : Int) : cor (-a) (-b) (-c) (-d) (-e) (-f) = - cor a b c d e f := by
  unfold cor
  by_cases h1 : a = 0
  · by_cases h2 : b = 0
    · by_cases h3 : c = 0
      · by_cases h4 : d = 0
        · by_cases h5 : e = 0
          · simp [h1, h2, h3, h4, h5]
          · simp [h1, h2, h3, h4, h5]
        · simp [h1, h2, h3, h4]
      · simp [h1, h2, h3]
    · simp [h1, h2]
  · simp [h1]

/-! ### the walks -/
theorem compare8 (x y : Int) (w : World) : Calls Try.prog 27 #[.int .u8 x, .int .u8 y] w fun e w' => e = .returned (.int .i64 (cmpI x y)) ∧ w' = w := by
  by_cases h1 : x < y
  · have e : cmpI x y = -1 := by unfold cmpI; rw [if_pos h1]
    rw [e]; clear e
    go_enter Try.func27, Try.ntmps27
    go_wp2
    go_ret
    exact ⟨rfl, rfl⟩
  · by_cases h2 : y < x
    · have e : cmpI x y = 1 := by unfold cmpI; rw [if_neg h1, if_pos h2]
      rw [e]; clear e
      go_enter Try.func27, Try.ntmps27
      go_wp2
      go_ret
      exact ⟨rfl, rfl⟩
    · have e : cmpI x y = 0 := by unfold cmpI; rw [if_neg h1, if_neg h2]
      rw [e]; clear e
      go_enter Try.func27, Try.ntmps27
      go_wp2
      go_ret
      exact ⟨rfl, rfl⟩
theorem compareI (x y : Int) (w : World) : Calls Try.prog 29 #[.int .i64 x, .int .i64 y] w fun e w' => e = .returned (.int .i64 (cmpI x y)) ∧ w' = w := by
  by_cases h1 : x < y
  · have e : cmpI x y = -1 := by unfold cmpI; rw [if_pos h1]
    rw [e]; clear e
    go_enter Try.func29, Try.ntmps29
    go_wp2
    go_ret
    exact ⟨rfl, rfl⟩
  · by_cases h2 : y < x
    · have e : cmpI x y = 1 := by unfold cmpI; rw [if_neg h1, if_pos h2]
      rw [e]; clear e
      go_enter Try.func29, Try.ntmps29
      go_wp2
      go_ret
      exact ⟨rfl, rfl⟩
    · have e : cmpI x y = 0 := by unfold cmpI; rw [if_neg h1, if_neg h2]
      rw [e]; clear e
      go_enter Try.func29, Try.ntmps29
      go_wp2
      go_ret
      exact ⟨rfl, rfl⟩
theorem cmpIntB1 (x y : Int) (w : World) : Calls Try.prog 18 #[.int .i64 x, .int .i64 y] w fun e w' => e = .returned (.int .i64 (cmpI x y)) ∧ w' = w := by
  by_cases h1 : x < y
  · have e : cmpI x y = -1 := by unfold cmpI; rw [if_pos h1]
    rw [e]; clear e
    go_enter Try.func18, Try.ntmps18
    go_wp2
    go_ret
    exact ⟨rfl, rfl⟩
  · by_cases h2 : y < x
    · have e : cmpI x y = 1 := by unfold cmpI; rw [if_neg h1, if_pos h2]
      rw [e]; clear e
      go_enter Try.func18, Try.ntmps18
      go_wp2
      go_ret
      exact ⟨rfl, rfl⟩
    · have e : cmpI x y = 0 := by unfold cmpI; rw [if_neg h1, if_neg h2]
      rw [e]; clear e
      go_enter Try.func18, Try.ntmps18
      go_wp2
      go_ret
      exact ⟨rfl, rfl⟩
theorem compareF (x y : Nat) (w : World) : Calls Try.prog 28 #[.float .f64 x, .float .f64 y] w fun e w' => e = .returned (.int .i64 (cmpF x y)) ∧ w' = w := by
  obtain ⟨r, hr⟩ : ∃ r, r = cmpF x y := ⟨_, rfl⟩
  rw [← hr]
  unfold cmpF at hr
  cases hx : (FloatKind.f64.format.order x x != some .eq) <;> cases hy : (FloatKind.f64.format.order y y != some .eq) <;> simp only [hx, hy, if_true, if_false, Bool.false_eq_true] at hr
  · cases h1 : (FloatKind.f64.format.order x y == some .lt) <;> cases h2 : (FloatKind.f64.format.order x y == some .gt) <;> simp only [h1, h2, if_true, if_false, Bool.false_eq_true] at hr
    all_goals
      subst hr
      go_enter Try.func28, Try.ntmps28
      go_wp2
      go_ret
      exact ⟨rfl, rfl⟩
  all_goals
    subst hr
    go_enter Try.func28, Try.ntmps28
    go_wp2
    go_ret
    exact ⟨rfl, rfl⟩
theorem cmpFloatB1 (x y : Nat) (w : World) : Calls Try.prog 19 #[.float .f64 x, .float .f64 y] w fun e w' => e = .returned (.int .i64 (cmpF x y)) ∧ w' = w := by
  obtain ⟨r, hr⟩ : ∃ r, r = cmpF x y := ⟨_, rfl⟩
  rw [← hr]
  unfold cmpF at hr
  cases hx : (FloatKind.f64.format.order x x != some .eq) <;> cases hy : (FloatKind.f64.format.order y y != some .eq) <;> simp only [hx, hy, if_true, if_false, Bool.false_eq_true] at hr
  · cases h1 : (FloatKind.f64.format.order x y == some .lt) <;> cases h2 : (FloatKind.f64.format.order x y == some .gt) <;> simp only [h1, h2, if_true, if_false, Bool.false_eq_true] at hr
    all_goals
      subst hr
      go_enter Try.func19, Try.ntmps19
      go_wp2
      go_ret
      exact ⟨rfl, rfl⟩
  all_goals
    subst hr
    go_enter Try.func19, Try.ntmps19
    go_wp2
    go_ret
    exact ⟨rfl, rfl⟩

/-! ### cmp.Or at six numbers -/
set_option maxHeartbeats 800000 in
theorem or_0 (b : Nat) (v0 v1 v2 v3 v4 v5 : Int) (w : World) (c0 : w.cell? ⟨b, 0, none⟩ = some (.int .i64 v0)) (c1 : w.cell? ⟨b, 1, none⟩ = some (.int .i64 v1)) (c2 : w.cell? ⟨b, 2, none⟩ = some (.int .i64 v2)) (c3 : w.cell? ⟨b, 3, none⟩ = some (.int .i64 v3)) (c4 : w.cell? ⟨b, 4, none⟩ = some (.int .i64 v4)) (c5 : w.cell? ⟨b, 5, none⟩ = some (.int .i64 v5)) (z0 : (v0 != 0) = true) :
    Calls Try.prog 26 #[.slice (some ⟨b, 0, none⟩) 6 6] w fun e w' => e = .returned (.int .i64 v0) ∧ w' = w := by
  go_enter Try.func26, Try.ntmps26
  go_wp2
  refine wp_loop_rounds 1 ?_
  rw [rounds_succ]
  go_wp2
  go_ret
  exact ⟨rfl, rfl⟩
set_option maxHeartbeats 800000 in
theorem or_1 (b : Nat) (v0 v1 v2 v3 v4 v5 : Int) (w : World) (c0 : w.cell? ⟨b, 0, none⟩ = some (.int .i64 v0)) (c1 : w.cell? ⟨b, 1, none⟩ = some (.int .i64 v1)) (c2 : w.cell? ⟨b, 2, none⟩ = some (.int .i64 v2)) (c3 : w.cell? ⟨b, 3, none⟩ = some (.int .i64 v3)) (c4 : w.cell? ⟨b, 4, none⟩ = some (.int .i64 v4)) (c5 : w.cell? ⟨b, 5, none⟩ = some (.int .i64 v5)) (z0 : (v0 != 0) = false) (z1 : (v1 != 0) = true) :
    Calls Try.prog 26 #[.slice (some ⟨b, 0, none⟩) 6 6] w fun e w' => e = .returned (.int .i64 v1) ∧ w' = w := by
  go_enter Try.func26, Try.ntmps26
  go_wp2
  refine wp_loop_rounds 2 ?_
  rw [rounds_succ]
  go_wp2
  rw [rounds_succ]
  go_wp2
  go_ret
  exact ⟨rfl, rfl⟩
set_option maxHeartbeats 800000 in
theorem or_2 (b : Nat) (v0 v1 v2 v3 v4 v5 : Int) (w : World) (c0 : w.cell? ⟨b, 0, none⟩ = some (.int .i64 v0)) (c1 : w.cell? ⟨b, 1, none⟩ = some (.int .i64 v1)) (c2 : w.cell? ⟨b, 2, none⟩ = some (.int .i64 v2)) (c3 : w.cell? ⟨b, 3, none⟩ = some (.int .i64 v3)) (c4 : w.cell? ⟨b, 4, none⟩ = some (.int .i64 v4)) (c5 : w.cell? ⟨b, 5, none⟩ = some (.int .i64 v5)) (z0 : (v0 != 0) = false) (z1 : (v1 != 0) = false) (z2 : (v2 != 0) = true) :
    Calls Try.prog 26 #[.slice (some ⟨b, 0, none⟩) 6 6] w fun e w' => e = .returned (.int .i64 v2) ∧ w' = w := by
  go_enter Try.func26, Try.ntmps26
  go_wp2
  refine wp_loop_rounds 3 ?_
  rw [rounds_succ]
  go_wp2
  rw [rounds_succ]
  go_wp2
  rw [rounds_succ]
  go_wp2
  go_ret
  exact ⟨rfl, rfl⟩
set_option maxHeartbeats 800000 in
theorem or_3 (b : Nat) (v0 v1 v2 v3 v4 v5 : Int) (w : World) (c0 : w.cell? ⟨b, 0, none⟩ = some (.int .i64 v0)) (c1 : w.cell? ⟨b, 1, none⟩ = some (.int .i64 v1)) (c2 : w.cell? ⟨b, 2, none⟩ = some (.int .i64 v2)) (c3 : w.cell? ⟨b, 3, none⟩ = some (.int .i64 v3)) (c4 : w.cell? ⟨b, 4, none⟩ = some (.int .i64 v4)) (c5 : w.cell? ⟨b, 5, none⟩ = some (.int .i64 v5)) (z0 : (v0 != 0) = false) (z1 : (v1 != 0) = false) (z2 : (v2 != 0) = false) (z3 : (v3 != 0) = true) :
    Calls Try.prog 26 #[.slice (some ⟨b, 0, none⟩) 6 6] w fun e w' => e = .returned (.int .i64 v3) ∧ w' = w := by
  go_enter Try.func26, Try.ntmps26
  go_wp2
  refine wp_loop_rounds 4 ?_
  rw [rounds_succ]
  go_wp2
  rw [rounds_succ]
  go_wp2
  rw [rounds_succ]
  go_wp2
  rw [rounds_succ]
  go_wp2
  go_ret
  exact ⟨rfl, rfl⟩
set_option maxHeartbeats 800000 in
theorem or_4 (b : Nat) (v0 v1 v2 v3 v4 v5 : Int) (w : World) (c0 : w.cell? ⟨b, 0, none⟩ = some (.int .i64 v0)) (c1 : w.cell? ⟨b, 1, none⟩ = some (.int .i64 v1)) (c2 : w.cell? ⟨b, 2, none⟩ = some (.int .i64 v2)) (c3 : w.cell? ⟨b, 3, none⟩ = some (.int .i64 v3)) (c4 : w.cell? ⟨b, 4, none⟩ = some (.int .i64 v4)) (c5 : w.cell? ⟨b, 5, none⟩ = some (.int .i64 v5)) (z0 : (v0 != 0) = false) (z1 : (v1 != 0) = false) (z2 : (v2 != 0) = false) (z3 : (v3 != 0) = false) (z4 : (v4 != 0) = true) :
    Calls Try.prog 26 #[.slice (some ⟨b, 0, none⟩) 6 6] w fun e w' => e = .returned (.int .i64 v4) ∧ w' = w := by
  go_enter Try.func26, Try.ntmps26
  go_wp2
  refine wp_loop_rounds 5 ?_
  rw [rounds_succ]
  go_wp2
  rw [rounds_succ]
  go_wp2
  rw [rounds_succ]
  go_wp2
  rw [rounds_succ]
  go_wp2
  rw [rounds_succ]
  go_wp2
  go_ret
  exact ⟨rfl, rfl⟩
set_option maxHeartbeats 800000 in
theorem or_5 (b : Nat) (v0 v1 v2 v3 v4 v5 : Int) (w : World) (c0 : w.cell? ⟨b, 0, none⟩ = some (.int .i64 v0)) (c1 : w.cell? ⟨b, 1, none⟩ = some (.int .i64 v1)) (c2 : w.cell? ⟨b, 2, none⟩ = some (.int .i64 v2)) (c3 : w.cell? ⟨b, 3, none⟩ = some (.int .i64 v3)) (c4 : w.cell? ⟨b, 4, none⟩ = some (.int .i64 v4)) (c5 : w.cell? ⟨b, 5, none⟩ = some (.int .i64 v5)) (z0 : (v0 != 0) = false) (z1 : (v1 != 0) = false) (z2 : (v2 != 0) = false) (z3 : (v3 != 0) = false) (z4 : (v4 != 0) = false) (z5 : (v5 != 0) = true) :
    Calls Try.prog 26 #[.slice (some ⟨b, 0, none⟩) 6 6] w fun e w' => e = .returned (.int .i64 v5) ∧ w' = w := by
  go_enter Try.func26, Try.ntmps26
  go_wp2
  refine wp_loop_rounds 6 ?_
  rw [rounds_succ]
  go_wp2
  rw [rounds_succ]
  go_wp2
  rw [rounds_succ]
  go_wp2
  rw [rounds_succ]
  go_wp2
  rw [rounds_succ]
  go_wp2
  rw [rounds_succ]
  go_wp2
  go_ret
  exact ⟨rfl, rfl⟩
set_option maxHeartbeats 800000 in
theorem or_6 (b : Nat) (v0 v1 v2 v3 v4 v5 : Int) (w : World) (c0 : w.cell? ⟨b, 0, none⟩ = some (.int .i64 v0)) (c1 : w.cell? ⟨b, 1, none⟩ = some (.int .i64 v1)) (c2 : w.cell? ⟨b, 2, none⟩ = some (.int .i64 v2)) (c3 : w.cell? ⟨b, 3, none⟩ = some (.int .i64 v3)) (c4 : w.cell? ⟨b, 4, none⟩ = some (.int .i64 v4)) (c5 : w.cell? ⟨b, 5, none⟩ = some (.int .i64 v5)) (z0 : (v0 != 0) = false) (z1 : (v1 != 0) = false) (z2 : (v2 != 0) = false) (z3 : (v3 != 0) = false) (z4 : (v4 != 0) = false) (z5 : (v5 != 0) = false) :
    Calls Try.prog 26 #[.slice (some ⟨b, 0, none⟩) 6 6] w fun e w' => e = .returned (.int .i64 0) ∧ w' = w := by
  go_enter Try.func26, Try.ntmps26
  go_wp2
  refine wp_loop_rounds 7 ?_
  rw [rounds_succ]
  go_wp2
  rw [rounds_succ]
  go_wp2
  rw [rounds_succ]
  go_wp2
  rw [rounds_succ]
  go_wp2
  rw [rounds_succ]
  go_wp2
  rw [rounds_succ]
  go_wp2
  rw [rounds_succ]
  go_wp2
  go_ret
  exact ⟨rfl, rfl⟩

theorem or6 (b : Nat) (v0 v1 v2 v3 v4 v5 : Int) (w : World) (c0 : w.cell? ⟨b, 0, none⟩ = some (.int .i64 v0)) (c1 : w.cell? ⟨b, 1, none⟩ = some (.int .i64 v1)) (c2 : w.cell? ⟨b, 2, none⟩ = some (.int .i64 v2)) (c3 : w.cell? ⟨b, 3, none⟩ = some (.int .i64 v3)) (c4 : w.cell? ⟨b, 4, none⟩ = some (.int .i64 v4)) (c5 : w.cell? ⟨b, 5, none⟩ = some (.int .i64 v5)) :
    Calls Try.prog 26 #[.slice (some ⟨b, 0, none⟩) 6 6] w fun e w' => e = .returned (.int .i64 (cor v0 v1 v2 v3 v4 v5)) ∧ w' = w := by
  unfold cor
  by_cases h0 : v0 = 0
  · rw [if_neg (by simpa using h0)]
    by_cases h1 : v1 = 0
    · rw [if_neg (by simpa using h1)]
      by_cases h2 : v2 = 0
      · rw [if_neg (by simpa using h2)]
        by_cases h3 : v3 = 0
        · rw [if_neg (by simpa using h3)]
          by_cases h4 : v4 = 0
          · rw [if_neg (by simpa using h4)]
            by_cases h5 : v5 = 0
            · have := or_6 b v0 v1 v2 v3 v4 v5 w c0 c1 c2 c3 c4 c5 (by simpa using h0) (by simpa using h1) (by simpa using h2) (by simpa using h3) (by simpa using h4) (by simpa using h5)
              rw [h5]
              exact this
            · exact or_5 b v0 v1 v2 v3 v4 v5 w c0 c1 c2 c3 c4 c5 (by simpa using h0) (by simpa using h1) (by simpa using h2) (by simpa using h3) (by simpa using h4) (by simpa using h5)
          · rw [if_pos h4]
            exact or_4 b v0 v1 v2 v3 v4 v5 w c0 c1 c2 c3 c4 c5 (by simpa using h0) (by simpa using h1) (by simpa using h2) (by simpa using h3) (by simpa using h4)
        · rw [if_pos h3]
          exact or_3 b v0 v1 v2 v3 v4 v5 w c0 c1 c2 c3 c4 c5 (by simpa using h0) (by simpa using h1) (by simpa using h2) (by simpa using h3)
      · rw [if_pos h2]
        exact or_2 b v0 v1 v2 v3 v4 v5 w c0 c1 c2 c3 c4 c5 (by simpa using h0) (by simpa using h1) (by simpa using h2)
    · rw [if_pos h1]
      exact or_1 b v0 v1 v2 v3 v4 v5 w c0 c1 c2 c3 c4 c5 (by simpa using h0) (by simpa using h1)
  · rw [if_pos h0]
    exact or_0 b v0 v1 v2 v3 v4 v5 w c0 c1 c2 c3 c4 c5 (by simpa using h0)
end Go.Proofs.Qxb6614596a
