/-
  placeCmpB1, walked: its first statement draws its order: twelve loads, six calls, one new block of six numbers.
-/
import Derived.Test.Qxb6614596aCmp
import Derived.Deep.RegionHeld3
import Derived.Deep.Cut
import Derived.Deep.CutRange
namespace Go.Proofs.Qxb6614596a
open Go.RowKit
set_option linter.unusedVariables false

/-- The six keys lie in the block B. -/
def Keys (B : Nat) (v0 v1 v2 v3 v4 v5 : Int) (w wx : World) : Prop :=
  wx.cell? ⟨B, 0, none⟩ = some (.int .i64 v0) ∧ wx.cell? ⟨B, 1, none⟩ = some (.int .i64 v1) ∧ wx.cell? ⟨B, 2, none⟩ = some (.int .i64 v2) ∧ wx.cell? ⟨B, 3, none⟩ = some (.int .i64 v3) ∧ wx.cell? ⟨B, 4, none⟩ = some (.int .i64 v4) ∧ wx.cell? ⟨B, 5, none⟩ = some (.int .i64 v5) ∧ Below w.heap.size w wx

theorem keys_made (w : World) (A B : Obj) (v0 v1 v2 v3 v4 v5 : Int) : Keys (w.heap.size + 2) v0 v1 v2 v3 v4 v5 w (((w.alloc A).alloc B).alloc (.cells #[.int .i64 v0, .int .i64 v1, .int .i64 v2, .int .i64 v3, .int .i64 v4, .int .i64 v5] 48)).drew := by
  have hs : ((w.alloc A).alloc B).heap.size = w.heap.size + 2 := by simp
  have h := heap_alloc_new ((w.alloc A).alloc B) (.cells #[.int .i64 v0, .int .i64 v1, .int .i64 v2, .int .i64 v3, .int .i64 v4, .int .i64 v5] 48)
  rw [hs] at h
  have hc : ∀ i, (((w.alloc A).alloc B).alloc (.cells #[.int .i64 v0, .int .i64 v1, .int .i64 v2, .int .i64 v3, .int .i64 v4, .int .i64 v5] 48)).drew.cell? ⟨w.heap.size + 2, i, none⟩ = (#[.int .i64 v0, .int .i64 v1, .int .i64 v2, .int .i64 v3, .int .i64 v4, .int .i64 v5] : Array Value)[i]? := by
    intro i
    show (((w.alloc A).alloc B).alloc _).cell? ⟨w.heap.size + 2, i, none⟩ = _
    simp only [World.cell?]
    rw [h]
    simp
  refine ⟨hc 0, hc 1, hc 2, hc 3, hc 4, hc 5, ?_⟩
  refine Below.drew (Below.alloc (Below.alloc (Below.alloc (Below.refl _ _) (Nat.le_refl _) _) (by simp) _) (by rw [hs]; omega) _)

set_option maxHeartbeats 6400000 in
set_option maxRecDepth 100000 in
theorem place (it pt it' pt' : Nat) (st en li fi su st' en' li' fi' su' : Int) (re re' : Bool) (w : World) (hl : 0 ≤ li ∧ li ≤ 255) (hf : 0 ≤ fi ∧ fi ≤ 255) (hs : 0 ≤ su ∧ su ≤ 255) (hl' : 0 ≤ li' ∧ li' ≤ 255) (hf' : 0 ≤ fi' ∧ fi' ≤ 255) (hs' : 0 ≤ su' ∧ su' ≤ 255) :
    Calls Try.prog 13 #[.agg #[.float .f64 it, .float .f64 pt, .int .i64 st, .int .i64 en, .int .u8 li, .int .u8 fi, .int .u8 su, .bool re], .agg #[.float .f64 it', .float .f64 pt', .int .i64 st', .int .i64 en', .int .u8 li', .int .u8 fi', .int .u8 su', .bool re']] w fun e w' => e = .returned (.int .i64 (cor (cmpI li li') (cmpF it it') (cmpI fi fi') (cmpF pt pt') (cmpI su su') (cmpI st st'))) ∧ Below w.heap.size w w' := by
  obtain ⟨CI, hCI⟩ : ∃ CI : Int → Int → Int, CI = cmpI := ⟨_, rfl⟩
  obtain ⟨CF, hCF⟩ : ∃ CF : Nat → Nat → Int, CF = cmpF := ⟨_, rfl⟩
  have k18 := cmpIntB1
  have k19 := cmpFloatB1
  rw [← hCI] at k18 ⊢
  rw [← hCF] at k19 ⊢
  clear hCI hCF
  have K18 := Lib.hid k18
  have K19 := Lib.hid k19
  clear k18 k19
  obtain ⟨l1, l2⟩ := hl; obtain ⟨f1, f2⟩ := hf; obtain ⟨s1, s2⟩ := hs
  obtain ⟨l1', l2'⟩ := hl'; obtain ⟨f1', f2'⟩ := hf'; obtain ⟨s1', s2'⟩ := hs'
  have wr : ∀ x : Int, 0 ≤ x → x ≤ 255 → IntKind.i64.wrap x = x := fun x h1 h2 => by rw [IntKind.wrap_i64]; omega
  obtain ⟨v0, e0⟩ : ∃ v, v = CI (IntKind.i64.wrap li) (IntKind.i64.wrap li') := ⟨_, rfl⟩
  obtain ⟨v1, e1⟩ : ∃ v, v = CF it it' := ⟨_, rfl⟩
  obtain ⟨v2, e2⟩ : ∃ v, v = CI (IntKind.i64.wrap fi) (IntKind.i64.wrap fi') := ⟨_, rfl⟩
  obtain ⟨v3, e3⟩ : ∃ v, v = CF pt pt' := ⟨_, rfl⟩
  obtain ⟨v4, e4⟩ : ∃ v, v = CI (IntKind.i64.wrap su) (IntKind.i64.wrap su') := ⟨_, rfl⟩
  obtain ⟨v5, e5⟩ : ∃ v, v = CI st st' := ⟨_, rfl⟩
  rw [show CI li li' = v0 by rw [e0, wr li l1 l2, wr li' l1' l2'], ← e1, show CI fi fi' = v2 by rw [e2, wr fi f1 f2, wr fi' f1' f2'], ← e3, show CI su su' = v4 by rw [e4, wr su s1 s2, wr su' s1' s2'], ← e5]
  have HE := Lib.hid (show v0 = CI (IntKind.i64.wrap li) (IntKind.i64.wrap li') ∧ v1 = CF it it' ∧ v2 = CI (IntKind.i64.wrap fi) (IntKind.i64.wrap fi') ∧ v3 = CF pt pt' ∧ v4 = CI (IntKind.i64.wrap su) (IntKind.i64.wrap su') ∧ v5 = CI st st' from ⟨e0, e1, e2, e3, e4, e5⟩)
  clear e0 e1 e2 e3 e4 e5 wr
  go_enter Try.func13, Try.ntmps13
  go_upto_region 1 with fail
  go_cut [5] from 7 to 43 (fun s5 wx => s5 = .pointer (some ⟨w.heap.size + 2, 0, none⟩) ∧ Keys (w.heap.size + 2) v0 v1 v2 v3 v4 v5 w wx)
  case first =>
    go_region_held3 (fun w' => w'.cell? ⟨w.heap.size, 0, none⟩ = some (.float .f64 it) ∧ w'.cell? ⟨w.heap.size, 1, none⟩ = some (.float .f64 pt) ∧ w'.cell? ⟨w.heap.size, 2, none⟩ = some (.int .i64 st) ∧ w'.cell? ⟨w.heap.size, 4, none⟩ = some (.int .u8 li) ∧ w'.cell? ⟨w.heap.size, 5, none⟩ = some (.int .u8 fi) ∧ w'.cell? ⟨w.heap.size, 6, none⟩ = some (.int .u8 su) ∧ w'.cell? ⟨w.heap.size + 1, 0, none⟩ = some (.float .f64 it') ∧ w'.cell? ⟨w.heap.size + 1, 1, none⟩ = some (.float .f64 pt') ∧ w'.cell? ⟨w.heap.size + 1, 2, none⟩ = some (.int .i64 st') ∧ w'.cell? ⟨w.heap.size + 1, 4, none⟩ = some (.int .u8 li') ∧ w'.cell? ⟨w.heap.size + 1, 5, none⟩ = some (.int .u8 fi') ∧ w'.cell? ⟨w.heap.size + 1, 6, none⟩ = some (.int .u8 su')) (simp [go_sem, World.cell?_alloc_past])
      (first
        | (go_at_call 18; refine (K18.out _ _ _).mono ?_; rintro e w' ⟨rfl, rfl⟩)
        | (go_at_call 19; refine (K19.out _ _ _).mono ?_; rintro e w' ⟨rfl, rfl⟩))
    all_goals
      clear K18 K19
      go_wp2_with fail
      go_meet
      obtain ⟨rfl, rfl, rfl, rfl, rfl, rfl⟩ := HE.out
      exact ⟨rfl, keys_made _ _ _ _ _ _ _ _ _⟩
  case rest =>
    obtain ⟨rfl, hk0, hk1, hk2, hk3, hk4, hk5, hBk⟩ := hcut
    clear K18 K19 HE
    by_cases h0 : v0 = 0
    · skip
      by_cases h1 : v1 = 0
      · skip
        by_cases h2 : v2 = 0
        · skip
          by_cases h3 : v3 = 0
          · skip
            by_cases h4 : v4 = 0
            · skip
              by_cases h5 : v5 = 0
              · skip
                have HC := Lib.hid (show cor v0 v1 v2 v3 v4 v5 = 0 by unfold cor; simp [h0, h1, h2, h3, h4, h5])
                have z0 : (v0 != 0) = false := by simpa using h0
                have z1 : (v1 != 0) = false := by simpa using h1
                have z2 : (v2 != 0) = false := by simpa using h2
                have z3 : (v3 != 0) = false := by simpa using h3
                have z4 : (v4 != 0) = false := by simpa using h4
                have z5 : (v5 != 0) = false := by simpa using h5
                clear h0 h1 h2 h3 h4 h5
                go_wp2
                refine wp_loop_rounds 7 ?_
                rw [rounds_succ]
                go_wp2
                rw [rounds_succ]
                go_wp2
                rw [rounds_succ]
                go_wp2
                rw [rounds_succ]
                go_wp2
                rw [rounds_succ]
                go_wp2
                rw [rounds_succ]
                go_wp2
                rw [rounds_succ]
                go_wp2
                go_ret
                exact ⟨by rw [HC.out]; rfl, hBk⟩
              · skip
                have HC := Lib.hid (show cor v0 v1 v2 v3 v4 v5 = v5 by unfold cor; simp [h0, h1, h2, h3, h4])
                have z0 : (v0 != 0) = false := by simpa using h0
                have z1 : (v1 != 0) = false := by simpa using h1
                have z2 : (v2 != 0) = false := by simpa using h2
                have z3 : (v3 != 0) = false := by simpa using h3
                have z4 : (v4 != 0) = false := by simpa using h4
                have z5 : (v5 != 0) = true := by simpa using h5
                clear h0 h1 h2 h3 h4 h5
                go_wp2
                refine wp_loop_rounds 6 ?_
                rw [rounds_succ]
                go_wp2
                rw [rounds_succ]
                go_wp2
                rw [rounds_succ]
                go_wp2
                rw [rounds_succ]
                go_wp2
                rw [rounds_succ]
                go_wp2
                rw [rounds_succ]
                go_wp2
                go_ret
                exact ⟨by rw [HC.out]; rfl, hBk⟩
            · skip
              have HC := Lib.hid (show cor v0 v1 v2 v3 v4 v5 = v4 by unfold cor; simp [h0, h1, h2, h3, h4])
              have z0 : (v0 != 0) = false := by simpa using h0
              have z1 : (v1 != 0) = false := by simpa using h1
              have z2 : (v2 != 0) = false := by simpa using h2
              have z3 : (v3 != 0) = false := by simpa using h3
              have z4 : (v4 != 0) = true := by simpa using h4
              clear h0 h1 h2 h3 h4
              go_wp2
              refine wp_loop_rounds 5 ?_
              rw [rounds_succ]
              go_wp2
              rw [rounds_succ]
              go_wp2
              rw [rounds_succ]
              go_wp2
              rw [rounds_succ]
              go_wp2
              rw [rounds_succ]
              go_wp2
              go_ret
              exact ⟨by rw [HC.out]; rfl, hBk⟩
          · skip
            have HC := Lib.hid (show cor v0 v1 v2 v3 v4 v5 = v3 by unfold cor; simp [h0, h1, h2, h3])
            have z0 : (v0 != 0) = false := by simpa using h0
            have z1 : (v1 != 0) = false := by simpa using h1
            have z2 : (v2 != 0) = false := by simpa using h2
            have z3 : (v3 != 0) = true := by simpa using h3
            clear h0 h1 h2 h3
            go_wp2
            refine wp_loop_rounds 4 ?_
            rw [rounds_succ]
            go_wp2
            rw [rounds_succ]
            go_wp2
            rw [rounds_succ]
            go_wp2
            rw [rounds_succ]
            go_wp2
            go_ret
            exact ⟨by rw [HC.out]; rfl, hBk⟩
        · skip
          have HC := Lib.hid (show cor v0 v1 v2 v3 v4 v5 = v2 by unfold cor; simp [h0, h1, h2])
          have z0 : (v0 != 0) = false := by simpa using h0
          have z1 : (v1 != 0) = false := by simpa using h1
          have z2 : (v2 != 0) = true := by simpa using h2
          clear h0 h1 h2
          go_wp2
          refine wp_loop_rounds 3 ?_
          rw [rounds_succ]
          go_wp2
          rw [rounds_succ]
          go_wp2
          rw [rounds_succ]
          go_wp2
          go_ret
          exact ⟨by rw [HC.out]; rfl, hBk⟩
      · skip
        have HC := Lib.hid (show cor v0 v1 v2 v3 v4 v5 = v1 by unfold cor; simp [h0, h1])
        have z0 : (v0 != 0) = false := by simpa using h0
        have z1 : (v1 != 0) = true := by simpa using h1
        clear h0 h1
        go_wp2
        refine wp_loop_rounds 2 ?_
        rw [rounds_succ]
        go_wp2
        rw [rounds_succ]
        go_wp2
        go_ret
        exact ⟨by rw [HC.out]; rfl, hBk⟩
    · skip
      have HC := Lib.hid (show cor v0 v1 v2 v3 v4 v5 = v0 by unfold cor; simp [h0])
      have z0 : (v0 != 0) = true := by simpa using h0
      clear h0
      go_wp2
      refine wp_loop_rounds 1 ?_
      rw [rounds_succ]
      go_wp2
      go_ret
      exact ⟨by rw [HC.out]; rfl, hBk⟩
end Go.Proofs.Qxb6614596a
