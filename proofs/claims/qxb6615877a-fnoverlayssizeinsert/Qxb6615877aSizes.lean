/-
  codec.UvarintLen, store.fieldSize, (field).size, (rowRef).size, ZZfieldSize, ZZrowRefSize, walked: each returns a plain function of a length.
-/
import Derived.Test.Qxb6615877aRows
import Derived.WalkKit
import Derived.WalkSpells
import Derived.Below
namespace Go.Proofs.Qxb6615877a
open Go.RowKit

/-- How many bytes x takes as a uvarint (x below 2^21). -/
def uv (x : Int) : Int := if x < 128 then 1 else if x < 16384 then 2 else 3
/-- How many bytes a field of n bytes takes in a page. -/
def fsz (n : Int) : Int := if 2048 < n then uv n + 4 else uv n + n

theorem uvlen (x : Int) (h0 : 0 ≤ x) (h1 : x < 2097152) (w : World) :
    Calls Try.prog 21 #[.int .u64 x] w fun e w' => e = .returned (.int .i64 (uv x)) ∧ w' = w := by
  by_cases c1 : x < 128
  · have e : uv x = 1 := by unfold uv; rw [if_pos c1]
    rw [e]
    clear e
    go_enter Try.func21, Try.ntmps21
    go_wp2
    refine wp_loop_rounds 1 ?_
    rw [rounds_succ]
    go_wp2
    go_ret
    exact ⟨rfl, rfl⟩
  · by_cases c2 : x < 16384
    · have e : uv x = 2 := by unfold uv; rw [if_neg c1, if_pos c2]
      rw [e]
      clear e
      go_enter Try.func21, Try.ntmps21
      go_wp2
      refine wp_loop_rounds 2 ?_
      rw [rounds_succ]
      go_wp2
      rw [rounds_succ]
      go_wp2
      go_ret
      exact ⟨rfl, rfl⟩
    · have e : uv x = 3 := by unfold uv; rw [if_neg c1, if_neg c2]
      rw [e]
      clear e
      go_enter Try.func21, Try.ntmps21
      go_wp2
      refine wp_loop_rounds 3 ?_
      rw [rounds_succ]
      go_wp2
      rw [rounds_succ]
      go_wp2
      rw [rounds_succ]
      go_wp2
      go_ret
      exact ⟨rfl, rfl⟩

theorem uv_bounds (x : Int) : 1 ≤ uv x ∧ uv x ≤ 3 := by
  unfold uv
  split
  · omega
  · split <;> omega

theorem fsize (n : Int) (h0 : 0 ≤ n) (h1 : n < 2097152) (w : World) :
    Calls Try.prog 19 #[.int .i64 n] w fun e w' => e = .returned (.int .i64 (fsz n)) ∧ w' = w := by
  obtain ⟨u, hu⟩ : ∃ u, u = uv n := ⟨_, rfl⟩
  have hb := uv_bounds n
  have hc := uvlen n h0 h1
  rw [← hu] at hb hc
  by_cases c : 2048 < n
  · have e : fsz n = u + 4 := by unfold fsz; rw [if_pos c, hu]
    rw [e]
    clear e hu
    go_enter Try.func19, Try.ntmps19
    go_wp2_with (go_at_call 21; refine (hc _).mono ?_; rintro e w' ⟨rfl, rfl⟩)
    go_ret
    exact ⟨rfl, rfl⟩
  · have e : fsz n = u + n := by unfold fsz; rw [if_neg c, hu]
    rw [e]
    clear e hu
    go_enter Try.func19, Try.ntmps19
    go_wp2_with (go_at_call 21; refine (hc _).mono ?_; rintro e w' ⟨rfl, rfl⟩)
    go_ret
    exact ⟨rfl, rfl⟩

theorem fieldsize (a : Option Addr) (len cap : Nat) (o : Value) (h1 : len < 2097152) (w : World) :
    Calls Try.prog 16 #[.agg #[.slice a len cap, o]] w fun e w' => e = .returned (.int .i64 (fsz len)) ∧ Below w.heap.size w w' := by
  have hc := fsize (len : Int) (by omega) (by omega)
  go_enter Try.func16, Try.ntmps16
  go_wp2_with (go_at_call 19; refine (hc _).mono ?_; rintro e w' ⟨rfl, rfl⟩)
  go_ret
  exact ⟨rfl, (Below.refl _ _).alloc (Nat.le_refl _) _⟩

/-- ZZfieldSize. -/
theorem zzfield (a : Option Addr) (len cap : Nat) (h1 : len < 2097152) (w : World) :
    Calls Try.prog 8 #[.slice a len cap] w fun e w' => e = .returned (.int .i64 (fsz len)) ∧ Below w.heap.size w w' := by
  have hc := fun o => fieldsize a len cap o h1
  go_enter Try.func8, Try.ntmps8
  go_wp2_with (go_at_call 16; refine (hc _ _).mono ?_; rintro e w' ⟨rfl, hb⟩)
  go_ret
  exact ⟨rfl, hb⟩

theorem rowsize (x y : Value) (n : Int) (h0 : 0 ≤ n) (h1 : n < 2097152) (w : World) :
    Calls Try.prog 17 #[.agg #[x, y, .int .u64 n]] w fun e w' => e = .returned (.int .i64 (fsz n)) ∧ Below w.heap.size w w' := by
  have hc := fsize n h0 h1
  go_enter Try.func17, Try.ntmps17
  go_wp2_with (go_at_call 19; refine (hc _).mono ?_; rintro e w' ⟨rfl, rfl⟩)
  go_ret
  exact ⟨rfl, (Below.refl _ _).alloc (Nat.le_refl _) _⟩

/-- ZZrowRefSize. -/
theorem zzrow (n : Int) (h0 : 0 ≤ n) (h1 : n < 2097152) (w : World) :
    Calls Try.prog 10 #[.int .u64 n] w fun e w' => e = .returned (.int .i64 (fsz n)) ∧ Below w.heap.size w w' := by
  have hc := fun x y => rowsize x y n h0 h1
  go_enter Try.func10, Try.ntmps10
  go_wp2_with (go_at_call 17; refine (hc _ _ _).mono ?_; rintro e w' ⟨rfl, hb⟩)
  go_ret
  exact ⟨rfl, hb⟩
end Go.Proofs.Qxb6615877a
