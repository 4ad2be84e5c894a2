/-
  pastSize, overlaysSize, ZZoverlaysSize, walked: what a list of overlays takes is a plain sum over the keys' lengths.
-/
import Derived.Test.Qxb6615877aChild
import Derived.Test.Qxb6615877aCopies
namespace Go.Proofs.Qxb6615877a
open Go.RowKit

/-- A slice as the memory holds it: where, how long, how much room. -/
def sv (t : Option Addr × Nat × Nat) : Value := .slice t.1 t.2.1 t.2.2
def d0 : Option Addr × Nat × Nat := (none, 0, 0)

/-- One overlay's nine cells. -/
def elt (lo hi : Value) : List Value := [.int .u32 0, .pointer none, .bool false, lo, .pointer none, hi, .pointer none, .int .i64 0, .int .i64 0]

/-- What overlay j takes. -/
def term (Lo Hi : List (Option Addr × Nat × Nat)) (j : Nat) : Int := fsz ((Lo.getD j d0).2.1 : Nat) + fsz ((Hi.getD j d0).2.1 : Nat) + 20
/-- What the first k take. -/
def psum (Lo Hi : List (Option Addr × Nat × Nat)) : Nat → Int
  | 0 => 0
  | k + 1 => psum Lo Hi k + term Lo Hi k

def Small (L : List (Option Addr × Nat × Nat)) : Prop := ∀ j, (L.getD j d0).2.1 < 2097152

theorem term_range {Lo Hi : List (Option Addr × Nat × Nat)} (h1 : Small Lo) (h2 : Small Hi) (j : Nat) : 0 ≤ term Lo Hi j ∧ term Lo Hi j ≤ 8388628 := by
  have a := fsz_range _ (h1 j)
  have b := fsz_range _ (h2 j)
  unfold term
  omega
theorem psum_range {Lo Hi : List (Option Addr × Nat × Nat)} (h1 : Small Lo) (h2 : Small Hi) : ∀ k : Nat, 0 ≤ psum Lo Hi k ∧ psum Lo Hi k ≤ 8388628 * (k : Int)
  | 0 => by simp [psum]
  | k + 1 => by
    have a := psum_range h1 h2 k
    have b := term_range h1 h2 k
    simp only [psum]
    omega

/-- Block B is a row of n overlays, the first k of them filled. -/
def Part (B n : Nat) (Lo Hi : List (Option Addr × Nat × Nat)) (k : Nat) (w : World) : Prop :=
  ∃ arr : Array Value, w.heap[B]? = some (.cells arr 51 (0, 0)) ∧ arr.size = n * 9 ∧
    ∀ j i, j < n → i < 9 → arr[j * 9 + i]? = (elt (sv (if j < k then Lo.getD j d0 else d0)) (sv (if j < k then Hi.getD j d0 else d0)))[i]?

theorem Part.on {B n k : Nat} {Lo Hi : List (Option Addr × Nat × Nat)} {w w' : World} (h : Part B n Lo Hi k w) (hb : Below w.heap.size w w') : Part B n Lo Hi k w' := by
  obtain ⟨arr, hg, hs, hc⟩ := h
  exact ⟨arr, by rw [hb.block B (lt_of_block hg)]; exact hg, hs, hc⟩

theorem Part.cell {B n k : Nat} {Lo Hi : List (Option Addr × Nat × Nat)} {w : World} (h : Part B n Lo Hi k w) (j i : Nat) (hj : j < n) (hi : i < 9) :
    w.cell? ⟨B, j * 9 + i, none⟩ = (elt (sv (if j < k then Lo.getD j d0 else d0)) (sv (if j < k then Hi.getD j d0 else d0)))[i]? := by
  obtain ⟨arr, hg, hs, hc⟩ := h
  rw [← hc j i hj hi]
  simp [World.cell?, hg]

theorem Part.free {B n k : Nat} {Lo Hi : List (Option Addr × Nat × Nat)} {w : World} (h : Part B n Lo Hi k w) (j : Nat) : w.frozen? ⟨B, j, none⟩ = false := by
  obtain ⟨arr, hg, _⟩ := h
  simp [World.frozen?, hg]

theorem Part.size {B n k : Nat} {Lo Hi : List (Option Addr × Nat × Nat)} {w : World} (h : Part B n Lo Hi k w) : B < w.heap.size := by
  obtain ⟨arr, hg, _⟩ := h
  exact lt_of_block hg

theorem nine {i : Nat} (h : i < 9) : i = 0 ∨ i = 1 ∨ i = 2 ∨ i = 3 ∨ i = 4 ∨ i = 5 ∨ i = 6 ∨ i = 7 ∨ i = 8 := by omega

theorem Part.step {B n k : Nat} {Lo Hi : List (Option Addr × Nat × Nat)} {w : World} (h : Part B n Lo Hi k w) (hk : k < n) :
    Part B n Lo Hi (k + 1) ((((w.setCell ⟨B, k * 9 + 3, none⟩ (sv (Lo.getD k d0))).setCell ⟨B, k * 9 + 3 + 1, none⟩ (.pointer none)).setCell ⟨B, k * 9 + 5, none⟩ (sv (Hi.getD k d0))).setCell ⟨B, k * 9 + 5 + 1, none⟩ (.pointer none)) := by
  obtain ⟨arr, hg, hs, hc⟩ := h
  have g1 := heap_setCell_same w B (k * 9 + 3) arr 51 (sv (Lo.getD k d0)) hg
  have g2 := heap_setCell_same _ B (k * 9 + 3 + 1) _ 51 (.pointer none) g1
  have g3 := heap_setCell_same _ B (k * 9 + 5) _ 51 (sv (Hi.getD k d0)) g2
  have g4 := heap_setCell_same _ B (k * 9 + 5 + 1) _ 51 (.pointer none) g3
  refine ⟨_, g4, by simpa using hs, ?_⟩
  intro j i hj hi
  simp only [Array.getElem?_setIfInBounds, Array.size_setIfInBounds, hs]
  by_cases hjk : j = k
  · subst hjk
    have e1 : (j < j + 1) := by omega
    simp only [e1, if_true]
    have hc' := hc j i hj hi
    simp only [show ¬ j < j by omega, if_false] at hc'
    rcases nine hi with rfl | rfl | rfl | rfl | rfl | rfl | rfl | rfl | rfl
    · rw [if_neg (by omega), if_neg (by omega), if_neg (by omega), if_neg (by omega), hc']; rfl
    · rw [if_neg (by omega), if_neg (by omega), if_neg (by omega), if_neg (by omega), hc']; rfl
    · rw [if_neg (by omega), if_neg (by omega), if_neg (by omega), if_neg (by omega), hc']; rfl
    · rw [if_neg (by omega), if_neg (by omega), if_neg (by omega), if_pos (by omega), if_pos (by omega)]; rfl
    · rw [if_neg (by omega), if_neg (by omega), if_pos (by omega), if_pos (by omega)]; rfl
    · rw [if_neg (by omega), if_pos (by omega), if_pos (by omega)]; rfl
    · rw [if_pos (by omega), if_pos (by omega)]; rfl
    · rw [if_neg (by omega), if_neg (by omega), if_neg (by omega), if_neg (by omega), hc']; rfl
    · rw [if_neg (by omega), if_neg (by omega), if_neg (by omega), if_neg (by omega), hc']; rfl
  · rw [if_neg (by omega), if_neg (by omega), if_neg (by omega), if_neg (by omega), hc j i hj hi]
    have e : (j < k + 1) = (j < k) := by apply propext; constructor <;> intro h <;> omega
    simp only [e]

theorem info51 : (Try.prog.info? 51).map (fun i => (i.zero, i.size, i.bytes)) = some (some (.agg #[.int .u32 0, .pointer none, .bool false, .slice none 0 0, .pointer none, .slice none 0 0, .pointer none, .int .i64 0, .int .i64 0]), 9, 104) := by kernel_rfl

/-- 'make([]childRect, n)'. -/
theorem make_over (n : Nat) (hn : n ≤ 131072) (Lo Hi : List (Option Addr × Nat × Nat)) : ∃ M : Array Value,
    (∀ W : World, (Instr.makeSlice 40 (.int .i64 (n : Int)) (.int .i64 (n : Int))).run Try.prog W = .ok (.slice (some ⟨W.heap.size, 0, none⟩) n n) (W.alloc (.cells M 51)))
    ∧ ∀ W : World, Part W.heap.size n Lo Hi 0 (W.alloc (.cells M 51)) := by
  obtain ⟨i0, hi, hz0, hz1, hz2⟩ := info_parts info51
  refine ⟨madeCells (Value.agg #[.int .u32 0, .pointer none, .bool false, .slice none 0 0, .pointer none, .slice none 0 0, .pointer none, .int .i64 0, .int .i64 0]).cells (n * i0.size), fun W => ?_, fun W => ?_⟩
  · have h := run_make (P := Try.prog) W 40 51 i0 _ Try.underlying40 hi hz0 .i64 .i64 (n : Int) (n : Int) (by omega) (by omega) (by rw [hz2]; omega) (by omega)
    simpa using h
  · refine ⟨_, heap_alloc_new W _, by rw [size_madeCells, hz1], ?_⟩
    intro j i hj hi
    rw [hz1]
    have hlt : j * 9 + i < n * 9 := by omega
    have hm : (j * 9 + i) % 9 = i := by omega
    have e : ¬ j < 0 := by omega
    simp only [e, if_false]
    unfold madeCells
    rw [Array.getElem?_map, Array.getElem?_range, if_pos hlt]
    simp only [Option.map_some]
    have hz : (Value.agg #[.int .u32 0, .pointer none, .bool false, .slice none 0 0, .pointer none, .slice none 0 0, .pointer none, .int .i64 0, .int .i64 0]).cells = #[.int .u32 0, .pointer none, .bool false, .slice none 0 0, .pointer none, .slice none 0 0, .pointer none, .int .i64 0, .int .i64 0] := rfl
    rw [hz]
    simp only [List.size_toArray, List.length_cons, List.length_nil]
    rw [show (j * 9 + i) % (0 + 1 + 1 + 1 + 1 + 1 + 1 + 1 + 1 + 1) = i by omega]
    rcases nine hi with rfl | rfl | rfl | rfl | rfl | rfl | rfl | rfl | rfl <;> rfl
end Go.Proofs.Qxb6615877a
