/-
  The copy 'other': its cells; one element more.
-/
import Derived.Test.Qxb6614596aLess
namespace Go.Proofs.Qxb6614596a
open Go.RowKit
set_option linter.unusedVariables false

/-- The piece with its end and its mark turned. -/
def PC.turn (p : PC) : PC := { it := p.it, pt := p.pt, st := p.st, en := bits .xor .i64 (-1) p.en, li := p.li, fi := p.fi, su := p.su, re := !p.re }

theorem cmpP_turn (x y : PC) : cmpP x.turn y.turn = cmpP x y := rfl

/-- Block B is a row of n pieces, the first k of them the turned ones of G. -/
def Oth (B n : Nat) (G : Nat → PC) (k : Nat) (w : World) : Prop :=
  ∃ arr : Array Value, w.heap[B]? = some (.cells arr 34 (0, 0)) ∧ arr.size = n * 8 ∧ ∀ i c, i < k → c < 8 → arr[i * 8 + c]? = (((G i).turn).cells)[c]?

theorem Oth.free {B n k : Nat} {G : Nat → PC} {w : World} (h : Oth B n G k w) (j : Nat) : w.frozen? ⟨B, j, none⟩ = false := by
  obtain ⟨arr, hg, _⟩ := h
  simp [World.frozen?, hg]
theorem Oth.there {B n k : Nat} {G : Nat → PC} {w : World} (h : Oth B n G k w) (j : Nat) (hj : j < n * 8) : ∃ v, w.cell? ⟨B, j, none⟩ = some v := by
  obtain ⟨arr, hg, hs, _⟩ := h
  refine ⟨arr[j]'(by omega), ?_⟩
  simp [World.cell?, hg, hs, hj]
theorem Oth.src {B n : Nat} {G : Nat → PC} {w : World} (h : Oth B n G n w) : Src w B 0 n (fun i => (G i).turn) := by
  obtain ⟨arr, hg, hs, hc⟩ := h
  intro i c hi hcc
  rw [← hc i c hi hcc, Nat.zero_add]
  simp [World.cell?, hg]

theorem eight {i : Nat} (h : i < 8) : i = 0 ∨ i = 1 ∨ i = 2 ∨ i = 3 ∨ i = 4 ∨ i = 5 ∨ i = 6 ∨ i = 7 := by omega

theorem Oth.step {B n k : Nat} {G : Nat → PC} {w : World} (h : Oth B n G k w) (hk : k < n) (v0 v1 v2 v3 v4 v5 v6 v7 : Value) (hv : ((G k).turn).cells = [v0, v1, v2, v3, v4, v5, v6, v7]) :
    Oth B n G (k + 1) ((((((((w.setCell ⟨B, k * 8, none⟩ v0).setCell ⟨B, k * 8 + 1, none⟩ v1).setCell ⟨B, k * 8 + 2, none⟩ v2).setCell ⟨B, k * 8 + 3, none⟩ v3).setCell ⟨B, k * 8 + 4, none⟩ v4).setCell ⟨B, k * 8 + 5, none⟩ v5).setCell ⟨B, k * 8 + 6, none⟩ v6).setCell ⟨B, k * 8 + 7, none⟩ v7) := by
  obtain ⟨arr, hg, hs, hc⟩ := h
  have g0 := heap_setCell_same w B (k * 8) arr 34 v0 hg
  have g1 := heap_setCell_same _ B (k * 8 + 1) _ 34 v1 g0
  have g2 := heap_setCell_same _ B (k * 8 + 2) _ 34 v2 g1
  have g3 := heap_setCell_same _ B (k * 8 + 3) _ 34 v3 g2
  have g4 := heap_setCell_same _ B (k * 8 + 4) _ 34 v4 g3
  have g5 := heap_setCell_same _ B (k * 8 + 5) _ 34 v5 g4
  have g6 := heap_setCell_same _ B (k * 8 + 6) _ 34 v6 g5
  have g7 := heap_setCell_same _ B (k * 8 + 7) _ 34 v7 g6
  refine ⟨_, g7, by simpa using hs, ?_⟩
  intro i c hi hcc
  simp only [Array.getElem?_setIfInBounds, Array.size_setIfInBounds, hs]
  by_cases e : i = k
  · subst e
    rw [hv]
    rcases eight hcc with rfl | rfl | rfl | rfl | rfl | rfl | rfl | rfl
    · rw [if_neg (by omega), if_neg (by omega), if_neg (by omega), if_neg (by omega), if_neg (by omega), if_neg (by omega), if_neg (by omega), if_pos (by omega), if_pos (by omega)]; rfl
    · rw [if_neg (by omega), if_neg (by omega), if_neg (by omega), if_neg (by omega), if_neg (by omega), if_neg (by omega), if_pos (by omega), if_pos (by omega)]; rfl
    · rw [if_neg (by omega), if_neg (by omega), if_neg (by omega), if_neg (by omega), if_neg (by omega), if_pos (by omega), if_pos (by omega)]; rfl
    · rw [if_neg (by omega), if_neg (by omega), if_neg (by omega), if_neg (by omega), if_pos (by omega), if_pos (by omega)]; rfl
    · rw [if_neg (by omega), if_neg (by omega), if_neg (by omega), if_pos (by omega), if_pos (by omega)]; rfl
    · rw [if_neg (by omega), if_neg (by omega), if_pos (by omega), if_pos (by omega)]; rfl
    · rw [if_neg (by omega), if_pos (by omega), if_pos (by omega)]; rfl
    · rw [if_pos (by omega), if_pos (by omega)]; rfl
  · rw [if_neg (by omega), if_neg (by omega), if_neg (by omega), if_neg (by omega), if_neg (by omega), if_neg (by omega), if_neg (by omega), if_neg (by omega)]
    exact hc i c (by omega) hcc

theorem Oth.alloc {B n k : Nat} {G : Nat → PC} {w : World} (h : Oth B n G k w) (o : Obj) : Oth B n G k (w.alloc o) := by
  obtain ⟨arr, hg, hs, hc⟩ := h
  exact ⟨arr, by rw [Below.heap_alloc _ _ _ (lt_of_block hg)]; exact hg, hs, hc⟩
theorem Oth.lt {B n k : Nat} {G : Nat → PC} {w : World} (h : Oth B n G k w) : B < w.heap.size := by
  obtain ⟨arr, hg, _⟩ := h
  exact lt_of_block hg

theorem info34 : (Try.prog.info? 34).map (fun i => (i.zero, i.size, i.bytes)) = some (some (.agg #[.float .f64 0, .float .f64 0, .int .i64 0, .int .i64 0, .int .u8 0, .int .u8 0, .int .u8 0, .bool false]), 8, 40) := by kernel_rfl

/-- 'make([]PieceB1, n)'. -/
theorem make34 (n : Nat) (hn : n ≤ 16384) (G : Nat → PC) : ∃ M : Array Value,
    (∀ W : World, (Instr.makeSlice 30 (.int .i64 (n : Int)) (.int .i64 (n : Int))).run Try.prog W = .ok (.slice (some ⟨W.heap.size, 0, none⟩) n n) (W.alloc (.cells M 34)))
    ∧ ∀ W : World, Oth W.heap.size n G 0 (W.alloc (.cells M 34)) := by
  obtain ⟨i0, hi, hz0, hz1, hz2⟩ := info_parts info34
  refine ⟨madeCells (Value.agg #[.float .f64 0, .float .f64 0, .int .i64 0, .int .i64 0, .int .u8 0, .int .u8 0, .int .u8 0, .bool false]).cells (n * i0.size), fun W => ?_, fun W => ?_⟩
  · have h := run_make (P := Try.prog) W 30 34 i0 _ Try.underlying30 hi hz0 .i64 .i64 (n : Int) (n : Int) (by omega) (by omega) (by rw [hz2]; omega) (by omega)
    simpa using h
  · exact ⟨_, heap_alloc_new W _, by rw [size_madeCells, hz1], fun i c hi => absurd hi (by omega)⟩

/-! ### the test ahead -/
theorem zz10 (a : Option Addr) (n cap : Nat) (i j : Int) (h : n ≤ 1048576) (w : World) :
    Calls Try.prog 10 #[.slice a n cap, .int .i64 i, .int .i64 j] w fun e w' => e = .returned (.bool true) ∧ w = w' := by
  go_enter Try.func10, Try.ntmps10
  go_wp2
  go_ret
  exact ⟨rfl, rfl⟩
theorem zz10_long (a : Option Addr) (n cap : Nat) (i j : Int) (h : 1048576 < n) (w : World) :
    Calls Try.prog 10 #[.slice a n cap, .int .i64 i, .int .i64 j] w fun e w' => e = .returned (.bool false) ∧ w = w' := by
  go_enter Try.func10, Try.ntmps10
  go_wp2
  go_ret
  exact ⟨rfl, rfl⟩

theorem out_long (a : Option Addr) (n cap : Nat) (i j : Int) (h : 1048576 < n) (w : World) :
    Calls Try.prog 5 #[.slice a n cap, .int .i64 i, .int .i64 j] w fun e w' => e = .returned (.bool true) ∧ Below w.heap.size w w' := by
  have k := Lib.hid (zz10_long a n cap i j h)
  go_enter Try.func5, Try.ntmps5
  go_wp2_with (go_at_call 10; refine (k.out _).mono ?_; rintro e w' ⟨rfl, rfl⟩)
  go_ret
  exact ⟨rfl, Below.refl _ _⟩
theorem out_many (a : Option Addr) (n cap : Nat) (i j : Int) (h : n ≤ 1048576) (h' : 16384 < n) (w : World) :
    Calls Try.prog 5 #[.slice a n cap, .int .i64 i, .int .i64 j] w fun e w' => e = .returned (.bool true) ∧ Below w.heap.size w w' := by
  have k := Lib.hid (zz10 a n cap i j h)
  go_enter Try.func5, Try.ntmps5
  go_wp2_with (go_at_call 10; refine (k.out _).mono ?_; rintro e w' ⟨rfl, rfl⟩)
  go_ret
  exact ⟨rfl, Below.refl _ _⟩
theorem out_1 (a : Option Addr) (n cap : Nat) (i j : Int) (h : n ≤ 16384) (h' : i < 0) (w : World) :
    Calls Try.prog 5 #[.slice a n cap, .int .i64 i, .int .i64 j] w fun e w' => e = .returned (.bool true) ∧ Below w.heap.size w w' := by
  have k := Lib.hid (zz10 a n cap i j (by omega))
  go_enter Try.func5, Try.ntmps5
  go_wp2_with (go_at_call 10; refine (k.out _).mono ?_; rintro e w' ⟨rfl, rfl⟩)
  go_ret
  exact ⟨rfl, Below.refl _ _⟩
theorem out_2 (a : Option Addr) (n cap : Nat) (i j : Int) (h : n ≤ 16384) (h' : 0 ≤ i) (h2 : (n : Int) ≤ i) (w : World) :
    Calls Try.prog 5 #[.slice a n cap, .int .i64 i, .int .i64 j] w fun e w' => e = .returned (.bool true) ∧ Below w.heap.size w w' := by
  have k := Lib.hid (zz10 a n cap i j (by omega))
  go_enter Try.func5, Try.ntmps5
  go_wp2_with (go_at_call 10; refine (k.out _).mono ?_; rintro e w' ⟨rfl, rfl⟩)
  go_ret
  exact ⟨rfl, Below.refl _ _⟩
theorem out_3 (a : Option Addr) (n cap : Nat) (i j : Int) (h : n ≤ 16384) (h' : 0 ≤ i) (h2 : i < (n : Int)) (h3 : j < 0) (w : World) :
    Calls Try.prog 5 #[.slice a n cap, .int .i64 i, .int .i64 j] w fun e w' => e = .returned (.bool true) ∧ Below w.heap.size w w' := by
  have k := Lib.hid (zz10 a n cap i j (by omega))
  go_enter Try.func5, Try.ntmps5
  go_wp2_with (go_at_call 10; refine (k.out _).mono ?_; rintro e w' ⟨rfl, rfl⟩)
  go_ret
  exact ⟨rfl, Below.refl _ _⟩
theorem out_4 (a : Option Addr) (n cap : Nat) (i j : Int) (h : n ≤ 16384) (h' : 0 ≤ i) (h2 : i < (n : Int)) (h3 : 0 ≤ j) (h4 : (n : Int) ≤ j) (w : World) :
    Calls Try.prog 5 #[.slice a n cap, .int .i64 i, .int .i64 j] w fun e w' => e = .returned (.bool true) ∧ Below w.heap.size w w' := by
  have k := Lib.hid (zz10 a n cap i j (by omega))
  go_enter Try.func5, Try.ntmps5
  go_wp2_with (go_at_call 10; refine (k.out _).mono ?_; rintro e w' ⟨rfl, rfl⟩)
  go_ret
  exact ⟨rfl, Below.refl _ _⟩
end Go.Proofs.Qxb6614596a
