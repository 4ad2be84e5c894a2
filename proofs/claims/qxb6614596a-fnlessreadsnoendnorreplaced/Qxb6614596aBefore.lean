/-
  (*piece).before, walked: one statement that draws its order, twelve loads, seven calls.
-/
import Derived.Test.Qxb6614596aCmp
import Derived.Deep.RegionHeld3
namespace Go.Proofs.Qxb6614596a
open Go.RowKit

theorem new_cell (w : World) (vs : Array Value) (t : TypeId) (i : Nat) : (w.alloc (.cells vs t)).drew.cell? ⟨w.heap.size, i, none⟩ = vs[i]? := by
  show (w.alloc (.cells vs t)).cell? ⟨w.heap.size, i, none⟩ = vs[i]?
  have h := heap_alloc_new w (.cells vs t)
  simp only [World.cell?]
  rw [h]
  simp

set_option maxHeartbeats 6400000 in
set_option maxRecDepth 100000 in
theorem before (b o b' o' : Nat) (it pt it' pt' : Nat) (st li fi su st' li' fi' su' : Int) (w : World)
    (c0 : w.cell? ⟨b, o, none⟩ = some (.float .f64 it)) (c1 : w.cell? ⟨b, o + 1, none⟩ = some (.float .f64 pt)) (c2 : w.cell? ⟨b, o + 2, none⟩ = some (.int .i64 st)) (c4 : w.cell? ⟨b, o + 4, none⟩ = some (.int .u8 li)) (c5 : w.cell? ⟨b, o + 5, none⟩ = some (.int .u8 fi)) (c6 : w.cell? ⟨b, o + 6, none⟩ = some (.int .u8 su))
    (d0 : w.cell? ⟨b', o', none⟩ = some (.float .f64 it')) (d1 : w.cell? ⟨b', o' + 1, none⟩ = some (.float .f64 pt')) (d2 : w.cell? ⟨b', o' + 2, none⟩ = some (.int .i64 st')) (d4 : w.cell? ⟨b', o' + 4, none⟩ = some (.int .u8 li')) (d5 : w.cell? ⟨b', o' + 5, none⟩ = some (.int .u8 fi')) (d6 : w.cell? ⟨b', o' + 6, none⟩ = some (.int .u8 su')) :
    Calls Try.prog 22 #[.pointer (some ⟨b, o, none⟩), .pointer (some ⟨b', o', none⟩)] w fun e w' => e = .returned (.bool (decide (cor (cmpI li li') (cmpF it it') (cmpI fi fi') (cmpF pt pt') (cmpI su su') (cmpI st st') < 0))) ∧ Below w.heap.size w w' := by
  obtain ⟨CI, hCI⟩ : ∃ CI : Int → Int → Int, CI = cmpI := ⟨_, rfl⟩
  obtain ⟨CF, hCF⟩ : ∃ CF : Nat → Nat → Int, CF = cmpF := ⟨_, rfl⟩
  obtain ⟨OR, hOR⟩ : ∃ OR : Int → Int → Int → Int → Int → Int → Int, OR = cor := ⟨_, rfl⟩
  have k27 := compare8
  have k28 := compareF
  have k29 := compareI
  have k26 := or6
  rw [← hCI] at k27 k29 ⊢
  rw [← hCF] at k28 ⊢
  rw [← hOR] at k26 ⊢
  clear hCI hCF hOR
  have K27 := Lib.hid k27
  have K28 := Lib.hid k28
  have K29 := Lib.hid k29
  have K26 := Lib.hid k26
  clear k26 k27 k28 k29
  go_enter Try.func22, Try.ntmps22
  go_wp2
  go_region_held3 (fun w' => w'.cell? ⟨b, o, none⟩ = some (.float .f64 it) ∧ w'.cell? ⟨b, o + 1, none⟩ = some (.float .f64 pt) ∧ w'.cell? ⟨b, o + 2, none⟩ = some (.int .i64 st) ∧ w'.cell? ⟨b, o + 4, none⟩ = some (.int .u8 li) ∧ w'.cell? ⟨b, o + 5, none⟩ = some (.int .u8 fi) ∧ w'.cell? ⟨b, o + 6, none⟩ = some (.int .u8 su) ∧ w'.cell? ⟨b', o', none⟩ = some (.float .f64 it') ∧ w'.cell? ⟨b', o' + 1, none⟩ = some (.float .f64 pt') ∧ w'.cell? ⟨b', o' + 2, none⟩ = some (.int .i64 st') ∧ w'.cell? ⟨b', o' + 4, none⟩ = some (.int .u8 li') ∧ w'.cell? ⟨b', o' + 5, none⟩ = some (.int .u8 fi') ∧ w'.cell? ⟨b', o' + 6, none⟩ = some (.int .u8 su')) (go_keep)
    (first
      | (go_at_call 27; refine (K27.out _ _ _).mono ?_; rintro e w' ⟨rfl, rfl⟩)
      | (go_at_call 28; refine (K28.out _ _ _).mono ?_; rintro e w' ⟨rfl, rfl⟩)
      | (go_at_call 29; refine (K29.out _ _ _).mono ?_; rintro e w' ⟨rfl, rfl⟩)
      | (go_at_call 26; refine (K26.out _ (CI li li') (CF it it') (CI fi fi') (CF pt pt') (CI su su') (CI st st') _ ?_ ?_ ?_ ?_ ?_ ?_).mono ?_; exact (new_cell _ _ _ 0).trans rfl; exact (new_cell _ _ _ 1).trans rfl; exact (new_cell _ _ _ 2).trans rfl; exact (new_cell _ _ _ 3).trans rfl; exact (new_cell _ _ _ 4).trans rfl; exact (new_cell _ _ _ 5).trans rfl; rintro e w' ⟨rfl, rfl⟩))
  all_goals
    clear K26 K27 K28 K29
    go_wp2
    go_ret
    refine ⟨rfl, ?_⟩
    repeat (first | exact Below.refl _ _ | refine Below.drew ?_ | refine Below.alloc ?_ ?_ _)
    all_goals (simp; try omega)
end Go.Proofs.Qxb6614596a
