/-
  The law FnFieldSizeAgreesWithRowSize, proved: the shell's frame (proof-skeleton.mjs), the walks typed.
-/
import Derived.Test.Qxb6615877aRows
import Derived.Test.Qxb6615877aSizes
import Derived.Test.Qxb6615877aCopies
import Derived.WalkKit
import Derived.ProofKit
import Derived.OpenShut
import Derived.ShutString
import Derived.ChangeOld
import Derived.Below
namespace Go.Proofs.Qxb6615877a.fnFieldSizeAgreesWithRowSize
open Go.ChangeShapes Go.WideShapes Go.ChangeAt Go.RowKit
open Go.ChangeMaps (open_string shut_string)
set_option linter.unusedVariables false

theorem own : ownKnob Try.prog.godebug = none := by kernel_rfl
theorem laidOut : laidOutB Try.prog = true := by kernel_rfl

/-- WHAT THE WALK IS TOLD OF A SLICE OF INTEGERS THAT CAME IN: it is nil; or it leads to a row of 'cap' cells, the numbers 'zs' (the first 'len' are its elements, the rest its spare room), each fitting its kind. -/
def IsRow (k : IntKind) (w : World) (a : Option Addr) (len cap : Nat) (zs : List Int) : Prop :=
  (a = none ∧ len = 0 ∧ cap = 0 ∧ zs = []) ∨
  ∃ x, a = some x ∧ len ≤ cap ∧ cap ≤ maxLen ∧ zs.length = cap ∧ (∀ i, i < zs.length → w.cell? (x.add i) = some (.int k (zs.getD i 0))) ∧ ∀ n ∈ zs, (Lit.int k n).wf = true

/-! ### STEP 1: THE WALK -/
theorem zz9 (a : Option Addr) (len cap : Nat) (h : len ≤ 1048576) (w : World) :
    Calls Try.prog 9 #[.slice a len cap] w fun e w' => e = .returned (.bool true) ∧ w = w' := by
  go_enter Try.func9, Try.ntmps9
  go_wp2
  go_ret
  exact ⟨rfl, rfl⟩
theorem zz9_long (a : Option Addr) (len cap : Nat) (h : 1048576 < len) (w : World) :
    Calls Try.prog 9 #[.slice a len cap] w fun e w' => e = .returned (.bool false) ∧ w = w' := by
  go_enter Try.func9, Try.ntmps9
  go_wp2
  go_ret
  exact ⟨rfl, rfl⟩

/-- too long: it returns true at once. -/
theorem walk_long (a : Option Addr) (len cap : Nat) (h : 1048576 < len) (w : World) :
    Calls Try.prog 4 #[.slice a len cap] w fun e w' => e = .returned (.bool true) ∧ Below w.heap.size w w' := by
  have h9 := zz9_long a len cap h
  go_enter Try.func4, Try.ntmps4
  go_wp2_with (go_at_call 9; refine (h9 _).mono ?_; rintro e w' ⟨rfl, rfl⟩)
  go_ret
  exact ⟨rfl, Below.refl _ _⟩

theorem walk_nil (w : World) :
    Calls Try.prog 4 #[.slice none 0 0] w fun e w' => e = .returned (.bool true) ∧ Below w.heap.size w w' := by
  have h9 := zz9 none 0 0 (by omega)
  have k8 := zzfield none 0 0 (by omega)
  have k10 := zzrow 0 (by omega) (by omega)
  have e1 : fsz ((0 : Nat) : Int) = 1 := by decide
  have e2 : fsz 0 = 1 := by decide
  rw [e1] at k8
  rw [e2] at k10
  clear e1 e2
  have hne := fun w => run_neq_slice_nil_any (P := Try.prog) w 22 5 none 0 0 0 0 Try.underlying22
  go_enter Try.func4, Try.ntmps4
  go_wp2_with (first | (go_at_call 9; refine (h9 _).mono ?_; rintro e w' ⟨rfl, rfl⟩) | (go_at_call 8; refine (k8 _).mono ?_; rintro e w1 ⟨rfl, hb1⟩) | (go_at_call 10; refine (k10 _).mono ?_; rintro e w2 ⟨rfl, hb2⟩))
  go_ret
  exact ⟨rfl, hb1.trans (hb2.mono hb1.size)⟩

theorem fsz_small (n : Int) (_h0 : 0 ≤ n) (h : n ≤ 2048) : n + 1 ≤ fsz n ∧ fsz n ≤ n + 2 := by
  unfold fsz uv
  rw [if_neg (by omega)]
  split
  · omega
  · rw [if_pos (by omega)]; omega
theorem fsz_great (n : Int) (h : 2048 < n) : fsz n = 6 ∨ fsz n = 7 := by
  unfold fsz uv
  rw [if_pos h, if_neg (by omega)]
  split
  · exact .inl rfl
  · exact .inr rfl

theorem walk_some (x : Addr) (len cap : Nat) (zs : List Int) (w : World) (hl : len ≤ cap) (hz : zs.length = cap) (hlen : len ≤ 1048576)
    (hcell : ∀ i, i < zs.length → w.cell? (x.add i) = some (.int .u8 (zs.getD i 0))) :
    Calls Try.prog 4 #[.slice (some x) len cap] w fun e w' => e = .returned (.bool true) ∧ Below w.heap.size w w' := by
  obtain ⟨M, hM, hmk⟩ := make_ahead len (by omega)
  obtain ⟨Y, hY, hcp⟩ := copy_ahead M x len cap zs w hM hl hz hcell
  clear hcell hY hM hz
  have h9 := zz9 (some x) len cap hlen
  have k8 := fun g => zzfield g len len (by omega)
  have k10 := zzrow (len : Int) (by omega) (by omega)
  have hne := fun w => run_neq_slice_nil_any (P := Try.prog) w 22 5 (some x) len cap 0 0 Try.underlying22
  have hb0 : Below w.heap.size w ((w.alloc (.cells M 5)).setRow w.heap.size Y) := below_setRow ((Below.refl _ _).alloc (Nat.le_refl _) _) (Nat.le_refl _) _
  by_cases c : (len : Int) ≤ 2048
  · obtain ⟨s1, s2⟩ := fsz_small (len : Int) (by omega) c
    generalize fsz (len : Int) = s at k8 k10 s1 s2
    go_enter Try.func4, Try.ntmps4
    go_wp2_with (first | (go_at_call 9; refine (h9 _).mono ?_; rintro e w' ⟨rfl, rfl⟩) | (go_at_call 8; refine (k8 _ _).mono ?_; rintro e w1 ⟨rfl, hb1⟩) | (go_at_call 10; refine (k10 _).mono ?_; rintro e w2 ⟨rfl, hb2⟩))
    go_ret
    exact ⟨rfl, hb0.trans ((hb1.mono hb0.size).trans (hb2.mono (Nat.le_trans hb0.size hb1.size)))⟩
  · have h67 := fsz_great (len : Int) (by omega)
    generalize fsz (len : Int) = s at k8 k10 h67
    rcases h67 with rfl | rfl
    · go_enter Try.func4, Try.ntmps4
      go_wp2_with (first | (go_at_call 9; refine (h9 _).mono ?_; rintro e w' ⟨rfl, rfl⟩) | (go_at_call 8; refine (k8 _ _).mono ?_; rintro e w1 ⟨rfl, hb1⟩) | (go_at_call 10; refine (k10 _).mono ?_; rintro e w2 ⟨rfl, hb2⟩))
      go_ret
      exact ⟨rfl, hb0.trans ((hb1.mono hb0.size).trans (hb2.mono (Nat.le_trans hb0.size hb1.size)))⟩
    · go_enter Try.func4, Try.ntmps4
      go_wp2_with (first | (go_at_call 9; refine (h9 _).mono ?_; rintro e w' ⟨rfl, rfl⟩) | (go_at_call 8; refine (k8 _ _).mono ?_; rintro e w1 ⟨rfl, hb1⟩) | (go_at_call 10; refine (k10 _).mono ?_; rintro e w2 ⟨rfl, hb2⟩))
      go_ret
      exact ⟨rfl, hb0.trans ((hb1.mono hb0.size).trans (hb2.mono (Nat.le_trans hb0.size hb1.size)))⟩

theorem walk (a0 : Option Addr) (len0 cap0 : Nat) (z0 : List Int) (w : World) (w0 : IsRow .u8 w a0 len0 cap0 z0) :
    Calls Try.prog 4 #[.slice a0 len0 cap0] w fun e w' => e = .returned (.bool true) ∧ Below w.heap.size w w' := by
  rcases w0 with ⟨rfl, rfl, rfl, rfl⟩ | ⟨x, rfl, hl, _, hz, hcell, _⟩
  · exact walk_nil w
  · by_cases h : len0 ≤ 1048576
    · exact walk_some x len0 cap0 z0 w hl hz h hcell
    · exact walk_long (some x) len0 cap0 (by omega) w

/-! ### THE ROW's STEP: WRITTEN OUT: LEAVE IT -/
set_option maxRecDepth 100000 in
theorem lifted (os : Os) (started : os.Started) (H : Type) (enc : TypeId × Value → H) :
    ReturnsInHanded {} Try.checked os 4 .any (Rows.fnFieldSizeAgreesWithRowSizeSpec.pre6 enc Try.prog Try.f4 Rows.fnFieldSizeAgreesWithRowSizeRow.domain false) (Rows.fnFieldSizeAgreesWithRowSizeSpec.post enc Try.prog Try.f4 false true false false) := by
  refine returnsInHanded_of_change (C := Try.checked) own started (by kernel_rfl) Try.func4
    (ChangeSpec.witness6 (enc := enc) (C := Try.checked) false ⟨#[], #[.slice none 0 0], []⟩ 8 (by kernel_rfl) (by kernel_rfl) (by kernel_rfl) (by kernel_rfl)) ?_
  intro W base args ds gs before hval0 hW hcnd _
  have hval : ∀ (j : Nat) t v, Try.f4.params[j]? = some t → args[j]? = some v → Value.okWide Try.prog W .any base t v := hval0
  have hW' := hW
  obtain ⟨p, q, hA0, hV, rfl, hfz, hnd⟩ := hW
  have hA : DataW.TrodAll enc Try.prog W 0 (fun _ => true) true Try.f4.params.toList args.toList ds p := hA0
  rw [Try.params4] at hA hval
  obtain ⟨v0, vs0, d0, ds0, p0, q0, hargs, rfl, rfl, h0, r0⟩ := trodAll_cons hA
  obtain ⟨rfl, rfl, rfl⟩ := trodAll_nil r0
  obtain rfl : args = #[v0] := by cases args; simp_all
  obtain ⟨rfl, rfl⟩ := trodVars_none hV
  obtain ⟨a0, len0, cap0, rfl⟩ := okWide_slice Try.underlying22 (hval 0 22 v0 rfl rfl)
  have k0 := h0
  have lt0 : ∀ x ∈ p0, x.block < W.heap.size := by obtain ⟨m, hm⟩ := k0; exact DataW.trod_lt m _ _ _ hm
  obtain ⟨z0, w0⟩ : ∃ zs, IsRow .u8 W a0 len0 cap0 zs := by
    obtain ⟨fuel, hf⟩ := h0
    rcases open_ints Try.underlying22 Try.underlying5 (by kernel_rfl) hf with ⟨hcs, _⟩ | ⟨x, l, c, zs, hcs, _, hl, hm, hz, _, hcell, hwz⟩
    · simp [Value.cells] at hcs
      obtain ⟨rfl, rfl, rfl⟩ := hcs
      exact ⟨[], .inl ⟨rfl, rfl, rfl, rfl⟩⟩
    · simp [Value.cells] at hcs
      obtain ⟨rfl, rfl, rfl⟩ := hcs
      exact ⟨zs, .inr ⟨_, rfl, hl, hm, by simpa using hz, hcell, hwz⟩⟩
  clear hA0 hval0
  refine (walk a0 len0 cap0 z0 W w0).mono fun e W' ⟨he, bel⟩ => ?_
  subst he
  exact ⟨_, rfl, _, _, _, [], _, [], hW', trodAll_mk1 (shut_bool Try.underlying4 _), (trodAll_cons_mk (Below.trod laidOut (by kernel_rfl) (of_decide_eq_true (by kernel_rfl)) k0 bel lt0) trodAll_mk0), rfl, bel.frame _, fun h => by cases h⟩

theorem over : Rows.fnFieldSizeAgreesWithRowSizeRow.holds Try.pinned (OpenSpec.ofChange Rows.fnFieldSizeAgreesWithRowSizeSpec) :=
  OpenClaim.holds_of_wide 4 Try.f4 rfl rfl rfl rfl rfl rfl rfl ⟨rfl, rfl, rfl, rfl, rfl⟩ rfl rfl rfl rfl rfl (by kernel_rfl) Try.func4 (by kernel_rfl)
    (of_decide_eq_true (by kernel_rfl)) (by unfold Func.isWrapper; first | (rw [if_pos (by decide +kernel)]; kernel_rfl) | (rw [if_neg (by decide +kernel)]; exact ⟨rfl, rfl⟩))
    (fun os started H enc _ => lifted os started H enc)

/-- ████ THE STATEMENT ████ -/
theorem proved : Rows.FnFieldSizeAgreesWithRowSizeSaid := over
end Go.Proofs.Qxb6615877a.fnFieldSizeAgreesWithRowSize
