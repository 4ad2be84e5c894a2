/-
  The law FnLenGainsOneForEachNewMember, proved: the shell's frame (proof-skeleton.mjs), the walk and the plain law typed.
-/
import Derived.Test.Qxb6614805aRows
import Derived.Test.Qxb6614805aOnes
import Derived.WalkKit
import Derived.ProofKit
import Derived.OpenShut
import Derived.ShutString
namespace Go.Proofs.Qxb6614805a.fnLenGainsOneForEachNewMember
open Go.ChangeShapes Go.WideShapes Go.ChangeAt Go.RowKit
open Pc
set_option linter.unusedVariables false      -- a walk need not use every 'w<i>' (that an integer argument fits its kind)

theorem own : ownKnob Try.prog.godebug = none := by kernel_rfl

/-! ### THE PLAIN LAW at the walk's numbers -/
theorem plain (s : Int) (i : Int) (hs0 : 0 ≤ s) (hs1 : s < 18446744073709551616) (hi0 : 0 ≤ i) (hi1 : i ≤ 63) :
    ∃ n : Nat, n ≤ 64 ∧ pop 64 (bits .andNot .u64 s (IntKind.u64.wrap (2 ^ i.toNat))).toNat = n
      ∧ pop 64 (bits .or .u64 (bits .andNot .u64 s (IntKind.u64.wrap (2 ^ i.toNat))) (IntKind.u64.wrap (2 ^ i.toNat))).toNat = n + 1
      ∧ pop 64 s.toNat = n + (if (bits .and .u64 s (IntKind.u64.wrap (2 ^ i.toNat)) != 0) = true then 1 else 0)
      ∧ n + pop 64 (bits .xor .u64 18446744073709551615 (bits .andNot .u64 s (IntKind.u64.wrap (2 ^ i.toNat)))).toNat = 64 := by
  obtain ⟨S, rfl⟩ := Int.eq_ofNat_of_zero_le hs0
  obtain ⟨I, rfl⟩ := Int.eq_ofNat_of_zero_le hi0
  have hI : I < 64 := by omega
  have hlt : 2 ^ I < 18446744073709551616 := Nat.pow_lt_pow_of_lt (by decide) hI
  have hB : IntKind.u64.wrap (2 ^ (I : Int).toNat) = ((2 ^ I : Nat) : Int) := by
    rw [IntKind.wrap_u64, Int.toNat_natCast]
    have e : ((2 : Int) ^ I) = ((2 ^ I : Nat) : Int) := by simp
    rw [e]
    generalize 2 ^ I = B at hlt ⊢
    omega
  rw [hB]
  obtain ⟨B, hb⟩ : ∃ B : Nat, B = 2 ^ I := ⟨_, rfl⟩
  obtain ⟨c1, c2, c3⟩ := cnt_bits S I hI
  rw [← hb] at c1 c2 c3 hlt ⊢
  have hle : S &&& (18446744073709551615 - B) < 18446744073709551616 := Nat.lt_of_le_of_lt Nat.and_le_left (by omega)
  rw [u64_andNot_nat S B (by omega) hlt, u64_and_nat S B (by omega) hlt]
  obtain ⟨M, hM⟩ : ∃ M : Nat, M = S &&& (18446744073709551615 - B) := ⟨_, rfl⟩
  rw [← hM] at c1 c2 c3 hle ⊢
  have hx := u64_xor_nat 18446744073709551615 M (by omega) hle
  rw [show ((18446744073709551615 : Nat) : Int) = (18446744073709551615 : Int) from rfl] at hx
  rw [u64_or_nat M B hle hlt, hx]
  simp only [Int.toNat_natCast]
  refine ⟨pop 64 M, pop_le 64 M, rfl, c1, ?_, c3⟩
  rw [c2]
  by_cases hz : S &&& B = 0
  · simp [hz]
  · have h2 : ¬ ((S &&& B : Nat) : Int) = 0 := by omega
    have h3 : (((S &&& B : Nat) : Int) != 0) = true := by simpa using h2
    rw [if_neg hz, if_pos h3]

theorem bits_lo (op : BinOp) (x y : Int) : 0 ≤ bits op .u64 x y := by
  unfold bits
  rw [IntKind.wrap_u64]
  omega
theorem bits_hi (op : BinOp) (x y : Int) : bits op .u64 x y < 18446744073709551616 := by
  unfold bits
  rw [IntKind.wrap_u64]
  omega

/-! ### STEP 1: THE WALK: the Go text returns true. -/
/-- Members.Len, its count under a name of no body. -/
theorem mlen_named : ∃ P : Int → Int, (∀ x, 0 ≤ x → x < 18446744073709551616 → ∀ w, Calls Try.prog 5 #[.int .u64 x] w fun e w' => e = .returned (.int .i64 (P x)) ∧ w' = w) ∧ ∀ x, P x = ((pop 64 x.toNat : Nat) : Int) :=
  ⟨fun x => ((pop 64 x.toNat : Nat) : Int), fun x h0 h1 w => mlen x h0 h1 w, fun _ => rfl⟩

theorem walk_in (s i : Int) (w0 : 0 ≤ s) (w0' : s < 18446744073709551616) (h1 : 0 ≤ i) (h2 : i ≤ 63) (w : World) :
    Calls Try.prog 3 #[.int .u64 s, .int .i64 i] w fun e w' => e = .returned (.bool true) ∧ Grown w w' := by
  obtain ⟨P, hk, hP⟩ := mlen_named
  obtain ⟨n, hn, c0, c1, c2, c3⟩ := plain s i w0 w0' h1 h2
  have d0 := hP (bits .andNot .u64 s (IntKind.u64.wrap (2 ^ i.toNat)))
  have d1 := hP (bits .or .u64 (bits .andNot .u64 s (IntKind.u64.wrap (2 ^ i.toNat))) (IntKind.u64.wrap (2 ^ i.toNat)))
  have d2 := hP s
  have d3 := hP (bits .xor .u64 18446744073709551615 (bits .andNot .u64 s (IntKind.u64.wrap (2 ^ i.toNat))))
  rw [c0] at d0
  rw [c1] at d1
  rw [c2] at d2
  rw [show pop 64 (bits .xor .u64 18446744073709551615 (bits .andNot .u64 s (IntKind.u64.wrap (2 ^ i.toNat)))).toNat = 64 - n by omega] at d3
  clear c0 c1 c2 c3 hP
  have d1' : P (bits .or .u64 (bits .andNot .u64 s (IntKind.u64.wrap (2 ^ i.toNat))) (IntKind.u64.wrap (2 ^ i.toNat))) = (n : Int) + 1 := by omega
  have d3' : P (bits .xor .u64 18446744073709551615 (bits .andNot .u64 s (IntKind.u64.wrap (2 ^ i.toNat)))) = 64 - (n : Int) := by omega
  rw [← show IntKind.u64.max = 18446744073709551615 by decide] at d3'
  clear d1 d3
  have hE : wrap64 ((n : Int) + (64 - (n : Int))) = 64 := by unfold wrap64; omega
  by_cases hz : (bits .and .u64 s (IntKind.u64.wrap (2 ^ i.toNat)) != 0) = true
  · rw [if_pos hz] at d2
    have d2' : P s = (n : Int) + 1 := by omega
    clear d2
    go_enter Try.func3, Try.ntmps3
    go_wp2_with (go_at_call 5; refine (hk _ ?_ ?_ _).mono ?_; (with_reducible (first | exact w0 | exact bits_lo _ _ _)); (with_reducible (first | exact w0' | exact bits_hi _ _ _)); rintro e w' ⟨rfl, rfl⟩)
    go_ret
    exact ⟨rfl, by repeat (first | exact Grown.refl _ | apply Grown.drew | apply Grown.alloc)⟩
  · rw [if_neg hz] at d2
    have hz' : (bits .and .u64 s (IntKind.u64.wrap (2 ^ i.toNat)) != 0) = false := by simpa using hz
    have d2' : P s = (n : Int) := by omega
    clear d2 hz
    go_enter Try.func3, Try.ntmps3
    go_wp2_with (go_at_call 5; refine (hk _ ?_ ?_ _).mono ?_; (with_reducible (first | exact w0 | exact bits_lo _ _ _)); (with_reducible (first | exact w0' | exact bits_hi _ _ _)); rintro e w' ⟨rfl, rfl⟩)
    go_ret
    exact ⟨rfl, by repeat (first | exact Grown.refl _ | apply Grown.drew | apply Grown.alloc)⟩

theorem walk (a0 : Int) (a1 : Int) (w0 : (Lit.int .u64 a0).wf = true) (w1 : (Lit.int .i64 a1).wf = true) (w : World) :
    Calls Try.prog 3 #[.int .u64 a0, .int .i64 a1] w fun e w' => e = .returned (.bool true) ∧ Grown w w' := by
  obtain ⟨b0, b1⟩ := bounds_u64 w0
  by_cases h1 : a1 < 0
  · clear w0 w1 b0 b1
    go_enter Try.func3, Try.ntmps3
    go_wp2
    go_ret
    exact ⟨rfl, Grown.refl _⟩
  · by_cases h2 : 63 < a1
    · clear w0 w1 b0 b1
      go_enter Try.func3, Try.ntmps3
      go_wp2
      go_ret
      exact ⟨rfl, Grown.refl _⟩
    · exact walk_in a0 a1 b0 (by omega) (by omega) (by omega) w

/-! ### THE ROW's STEP: WRITTEN OUT: LEAVE IT -/
set_option maxRecDepth 100000 in
theorem lifted (os : Os) (started : os.Started) (H : Type) (enc : TypeId × Value → H) :
    ReturnsInHanded {} Try.checked os 3 .any (Rows.fnLenGainsOneForEachNewMemberSpec.pre6 enc Try.prog Try.f3 Rows.fnLenGainsOneForEachNewMemberRow.domain false) (Rows.fnLenGainsOneForEachNewMemberSpec.post enc Try.prog Try.f3 false true false false) := by
  refine returnsInHanded_of_change (C := Try.checked) own started (by kernel_rfl) Try.func3
    (ChangeSpec.witness6 (enc := enc) (C := Try.checked) false ⟨#[], #[.int .u64 0, .int .i64 0], []⟩ 8 (by kernel_rfl) (by kernel_rfl) (by kernel_rfl) (by kernel_rfl)) ?_
  intro W base args ds gs before hval0 hW hcnd _
  have hval : ∀ (j : Nat) t v, Try.f3.params[j]? = some t → args[j]? = some v → Value.okWide Try.prog W .any base t v := hval0
  have hW' := hW
  obtain ⟨p, q, hA0, hV, rfl, hfz, hnd⟩ := hW
  have hA : DataW.TrodAll enc Try.prog W 0 (fun _ => true) true Try.f3.params.toList args.toList ds p := hA0
  rw [Try.params3] at hA hval
  obtain ⟨v0, vs0, d0, ds0, p0, q0, hargs, rfl, rfl, h0, r0⟩ := trodAll_cons hA
  obtain ⟨v1, vs1, d1, ds1, p1, q1, rfl, rfl, rfl, h1, r1⟩ := trodAll_cons r0
  obtain ⟨rfl, rfl, rfl⟩ := trodAll_nil r1
  obtain rfl : args = #[v0, v1] := by cases args; simp_all
  obtain ⟨rfl, rfl⟩ := trodVars_none hV
  obtain ⟨a0, rfl, rfl, rfl, w0⟩ := open_int Try.underlying22 (hval 0 22 v0 rfl rfl) h0
  obtain ⟨a1, rfl, rfl, rfl, w1⟩ := open_int Try.underlying3 (hval 1 3 v1 rfl rfl) h1
  clear hA0 hval0
  simp only [List.append_nil] at hW'
  refine (walk a0 a1 w0 w1 W).mono fun e W' ⟨he, hg⟩ => ?_
  subst he
  exact ⟨_, rfl, post_of_same (pa := []) (pv := []) hW' (fun _ _ _ => (trodAll_cons_mk (shut_bool Try.underlying4 _) trodAll_mk0)) (fun sp _ => (trodAll_cons_mk (shut_int Try.underlying22 w0) (trodAll_cons_mk (shut_int Try.underlying3 w1) trodAll_mk0))) (fun _ _ => rfl) rfl
    (hg.frame _) hg.2.1 (ok_one (by kernel_rfl) rfl (okWide_bool_mk Try.underlying4 _))⟩

theorem over : Rows.fnLenGainsOneForEachNewMemberRow.holds Try.pinned (OpenSpec.ofChange Rows.fnLenGainsOneForEachNewMemberSpec) :=
  OpenClaim.holds_of_wide 3 Try.f3 rfl rfl rfl rfl rfl rfl rfl ⟨rfl, rfl, rfl, rfl, rfl⟩ rfl rfl rfl rfl rfl (by kernel_rfl) Try.func3 (by kernel_rfl)
    (of_decide_eq_true (by kernel_rfl)) (by unfold Func.isWrapper; first | (rw [if_pos (by decide +kernel)]; kernel_rfl) | (rw [if_neg (by decide +kernel)]; exact ⟨rfl, rfl⟩))
    (fun os started H enc _ => lifted os started H enc)

/-- ████ THE STATEMENT ████ -/
theorem proved : Rows.FnLenGainsOneForEachNewMemberSaid :=
  over
end Go.Proofs.Qxb6614805a.fnLenGainsOneForEachNewMember
