/-
  (childRect).size, walked: what one overlay takes. Its one statement draws its order and holds two calls.
-/
import Derived.Test.Qxb6615877aSizes
import Derived.Deep.RegionWith
namespace Go.Proofs.Qxb6615877a
open Go.RowKit
theorem fieldsize_x (a : Option Addr) (len cap : Nat) (o : Value) (h1 : len < 2097152) (w : World) :
    Calls Try.prog 16 #[.agg #[.slice a len cap, o]] w fun e w' => e = .returned (.int .i64 (fsz len)) ∧ w' = w.alloc (.cells #[.slice a len cap, o] 35) := by
  have hc := fsize (len : Int) (by omega) (by omega)
  go_enter Try.func16, Try.ntmps16
  go_wp2_with (go_at_call 19; refine (hc _).mono ?_; rintro e w' ⟨rfl, rfl⟩)
  go_ret
  exact ⟨rfl, rfl⟩

theorem fsz_range (n : Nat) (h : n < 2097152) : 0 ≤ fsz n ∧ fsz n ≤ 4194304 := by
  have := uv_bounds n
  unfold fsz
  split <;> omega

theorem wraps (x y : Int) (h1 : 0 ≤ x ∧ x ≤ 4194304) (h2 : 0 ≤ y ∧ y ≤ 4194304) : x + y + 20 = IntKind.i64.wrap (IntKind.i64.wrap (IntKind.i64.wrap (IntKind.i64.wrap (x + y) + 8) + 8) + 4) := by
  simp only [IntKind.wrap_i64]
  omega

set_option maxHeartbeats 1600000 in
theorem childsize (la ha : Option Addr) (ll lc hl hc : Nat) (h1 : ll < 2097152) (h2 : hl < 2097152) (w : World) :
    Calls Try.prog 22 #[.agg #[.int .u32 0, .pointer none, .bool false, .slice la ll lc, .pointer none, .slice ha hl hc, .pointer none, .int .i64 0, .int .i64 0]] w fun e w' => e = .returned (.int .i64 (fsz ll + fsz hl + 20)) ∧ Below w.heap.size w w' := by
  obtain ⟨F, hF⟩ : ∃ F : Nat → Int, ∀ n, F n = fsz n := ⟨_, fun _ => rfl⟩
  have k : ∀ a (len : Nat) c o, len < 2097152 → ∀ w, Calls Try.prog 16 #[.agg #[.slice a len c, o]] w fun e w' => e = .returned (.int .i64 (F len)) ∧ w' = w.alloc (.cells #[.slice a len c, o] 35) := by
    intro a len c o h w
    rw [hF]
    exact fieldsize_x a len c o h w
  have b1 : 0 ≤ F ll ∧ F ll ≤ 4194304 := by rw [hF]; exact fsz_range ll h1
  have b2 : 0 ≤ F hl ∧ F hl ≤ 4194304 := by rw [hF]; exact fsz_range hl h2
  rw [← hF ll, ← hF hl, wraps _ _ b1 b2]
  clear hF b1 b2
  go_enter Try.func22, Try.ntmps22
  go_wp2
  go_region_with (go_at_call 16; refine (k _ _ _ _ ?_ _).mono ?_; (with_reducible assumption); rintro e w' ⟨rfl, rfl⟩)
  all_goals
    clear k
    go_wp2
    go_ret
    refine ⟨rfl, ?_⟩
    repeat (first | exact Below.refl _ _ | refine Below.drew ?_ | refine Below.alloc ?_ ?_ _)
    all_goals (simp; try omega)
end Go.Proofs.Qxb6615877a
