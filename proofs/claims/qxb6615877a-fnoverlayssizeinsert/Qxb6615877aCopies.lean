/-
  'zzc := make([]byte, len(data)); copy(zzc, data)': both operations' runs, stated ahead of a walk.
-/
import Derived.Test.Qxb6615877aRows
import Derived.WalkKit
import Derived.WalkSpells
import Derived.Below
import Derived.Laws.CopyOwn
namespace Go.Proofs.Qxb6615877a
open Go.RowKit

theorem info5 : (Try.prog.info? 5).map (fun i => (i.zero, i.size, i.bytes)) = some (some (.int .u8 0), 1, 1) := by kernel_rfl
theorem size5 : (Try.prog.info? 5).map (·.size) = some 1 := by kernel_rfl

theorem cell_lt {w : World} {a : Addr} {v : Value} (h : w.cell? a = some v) : a.block < w.heap.size := by
  cases Nat.lt_or_ge a.block w.heap.size with
  | inl h' => exact h'
  | inr h' =>
    exfalso
    have : w.heap[a.block]? = none := Array.getElem?_eq_none h'
    unfold World.cell? at h
    simp [this] at h

/-- 'make([]byte, n)' (n below 2^20 or so): a new block of n cells. -/
theorem make_ahead (n : Nat) (hn : n ≤ 2097152) : ∃ M : Array Value, M.size = n ∧
    ∀ W : World, (Instr.makeSlice 22 (.int .i64 (n : Int)) (.int .i64 (n : Int))).run Try.prog W = .ok (.slice (some ⟨W.heap.size, 0, none⟩) n n) (W.alloc (.cells M 5)) := by
  obtain ⟨i0, hi, hz0, hz1, hz2⟩ := info_parts info5
  refine ⟨madeCells (Value.int .u8 0).cells (n * i0.size), by rw [size_madeCells, hz1]; simp, fun W => ?_⟩
  have h := run_make (P := Try.prog) W 22 5 i0 (.int .u8 0) Try.underlying22 hi hz0 .i64 .i64 (n : Int) (n : Int) (by omega) (by omega) (by rw [hz2]; omega) (by omega)
  simpa using h

/-- 'copy(zzc, data)' behind that make. -/
theorem copy_ahead (M : Array Value) (x : Addr) (len cap : Nat) (zs : List Int) (W : World) (hM : M.size = len) (hl : len ≤ cap) (hz : zs.length = cap)
    (hcell : ∀ i, i < zs.length → W.cell? (x.add i) = some (.int .u8 (zs.getD i 0))) :
    ∃ Y : Array Value, Y.toList = (zs.take len).map (Value.int .u8) ∧
      ∀ ty, (Builtin.copy_ #[22, 22] ty #[.slice (some ⟨W.heap.size, 0, none⟩) len len, .slice (some x) len cap]).run Try.prog (W.alloc (.cells M 5)) = .ok (goInt len) ((W.alloc (.cells M 5)).setRow W.heap.size Y) := by
  have hlen : ((zs.take len).map (Value.int .u8)).length = len := by simp; omega
  refine ⟨((zs.take len).map (Value.int .u8)).toArray, by simp, fun ty => ?_⟩
  have h := run_copy_row (P := Try.prog) (W.alloc (.cells M 5)) 22 22 ty 5 W.heap.size 0 len len x len cap M 5 ((zs.take len).map (Value.int .u8)) Try.underlying22 size5 (heap_alloc_new W _) (by rw [hlen]; simp)
    (by
      intro j v hj
      have hj' : j < len := by rw [← hlen]; exact (List.getElem?_eq_some_iff.1 hj).1
      have hc := hcell j (by omega)
      have hb := cell_lt hc
      rw [World.cell?_alloc_lt W _ _ hb, hc, ← hj]
      simp [hj', List.getElem?_eq_getElem (show j < zs.length by omega)])
    (by rw [hlen]; omega) (ints_oneCell _ _)
  rw [h, hlen]
  congr 3
  rw [List.take_zero, List.nil_append, List.drop_of_length_le (by rw [Array.length_toList]; omega), List.append_nil]
end Go.Proofs.Qxb6615877a
