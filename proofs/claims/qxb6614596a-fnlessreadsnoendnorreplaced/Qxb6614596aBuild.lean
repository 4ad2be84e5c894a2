/-
  buildPiecesB1, walked.
-/
import Derived.Test.Qxb6614596aPush
namespace Go.Proofs.Qxb6614596a
open Go.RowKit
set_option linter.unusedVariables false

/-- A store of a float. -/
theorem run_store_float (P : Program) (w : World) (a : Addr) (m : Mode) (k : FloatKind) (n : Nat) : (store a (.float k n) m).run P w = stored P w a (.float k n) m := run_store P w a _ m rfl
attribute [local go_sem] run_store_float

/-- A []PieceB1's first n elements. -/
def Src (w : World) (b o n : Nat) (G : Nat → PC) : Prop := ∀ i c, i < n → c < 8 → w.cell? ⟨b, o + i * 8 + c, none⟩ = ((G i).cells)[c]?

theorem Src.on {w w' : World} {b o n B : Nat} {G : Nat → PC} (h : Src w b o n G) (hb : Below B w w') (hB : b < B) : Src w' b o n G := by
  intro i c hi hc
  rw [hb.cell (by exact hB)]
  exact h i c hi hc

set_option maxRecDepth 100000 in
set_option maxHeartbeats 1600000 in
/-- buildPiecesB1. -/
theorem build (b o n cap : Nat) (G : Nat → PC) (hn : n ≤ 16384) (hcap : n ≤ cap) (w : World) (hb : b < w.heap.size) (h : Src w b o n G) :
    Calls Try.prog 11 #[.slice (some ⟨b, o, none⟩) n cap] w fun e w' => ∃ v, e = .returned v ∧ Built w.heap.size w' v n G ∧ Below w.heap.size w w' := by
  have HS := Lib.hid h
  clear h
  go_enter Try.func11, Try.ntmps11
  go_wp2
  go_loopw [3, 4] (fun p i wr => ∃ (k : Nat) (v : Value), k ≤ n ∧ i = .int .i64 (k : Int) ∧ v = p ∧ Built w.heap.size wr v k G ∧ Below w.heap.size w wr) (fun _ i _ => n - (intOf i).toNat)
  case atStart => exact ⟨0, _, Nat.zero_le _, rfl, rfl, Built.start _ _ _, Below.refl _ _⟩
  case round =>
    obtain ⟨k, v, hk, rfl, rfl, hBu, hB⟩ := hrel
    by_cases hkl : k < n
    · have hS := HS.out.on hB hb
      have c0 : wr.cell? ⟨b, o + k * 8, none⟩ = some (.float .f64 (G k).it) := hS k 0 hkl (by omega)
      have c1 : wr.cell? ⟨b, o + k * 8 + 1, none⟩ = some (.float .f64 (G k).pt) := hS k 1 hkl (by omega)
      have c2 : wr.cell? ⟨b, o + k * 8 + 2, none⟩ = some (.int .i64 (G k).st) := hS k 2 hkl (by omega)
      have c3 : wr.cell? ⟨b, o + k * 8 + 3, none⟩ = some (.int .i64 (G k).en) := hS k 3 hkl (by omega)
      have c4 : wr.cell? ⟨b, o + k * 8 + 4, none⟩ = some (.int .u8 (G k).li) := hS k 4 hkl (by omega)
      have c5 : wr.cell? ⟨b, o + k * 8 + 5, none⟩ = some (.int .u8 (G k).fi) := hS k 5 hkl (by omega)
      have c6 : wr.cell? ⟨b, o + k * 8 + 6, none⟩ = some (.int .u8 (G k).su) := hS k 6 hkl (by omega)
      have c7 : wr.cell? ⟨b, o + k * 8 + 7, none⟩ = some (.bool (G k).re) := hS k 7 hkl (by omega)
      have kp := fun o' => push w.heap.size v k G (by omega) (wr.alloc o') (Nat.le_trans hB.size (by simp)) (hBu.on ((Below.refl _ _).alloc (Nat.le_refl _) _))
      generalize G k = g at c0 c1 c2 c3 c4 c5 c6 c7 kp
      have KP := Lib.hid kp
      have HB := Lib.hid hB
      clear hS kp hBu hB HS
      go_wp2_with (go_at_call 16; refine (KP.out _).mono ?_; rintro e w2 ⟨v2, rfl, hbu2, hb2⟩)
      have hB2 := (HB.out.alloc HB.out.size _).trans hb2
      go_roundw
      case rel => exact ⟨k + 1, v2, hkl, by go_num, rfl, hbu2, hB2⟩
      case measure => simp [intOf]; omega
    · obtain rfl : k = n := by omega
      have HBU := Lib.hid hBu
      clear hBu
      go_wp2
      go_ret
      exact ⟨_, rfl, HBU.out, hB⟩
end Go.Proofs.Qxb6614596a
