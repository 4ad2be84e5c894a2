/-
  The law FnFieldSizeInsertByte, proved: the shell's frame (proof-skeleton.mjs), the walks typed.
-/
import Derived.Test.Qxb6615877aRows
import Derived.Test.Qxb6615877aSizes
import Derived.Test.Qxb6615877aCopies
import Derived.WalkKit
import Derived.ProofKit
import Derived.OpenShut
import Derived.ShutString
import Derived.ChangeOld
import Derived.Below
namespace Go.Proofs.Qxb6615877a.fnFieldSizeInsertByte
open Go.ChangeShapes Go.WideShapes Go.ChangeAt Go.RowKit
open Go.ChangeMaps (open_string shut_string)
set_option linter.unusedVariables false

theorem own : ownKnob Try.prog.godebug = none := by kernel_rfl
theorem laidOut : laidOutB Try.prog = true := by kernel_rfl

/-- WHAT THE WALK IS TOLD OF A SLICE OF INTEGERS THAT CAME IN: it is nil; or it leads to a row of 'cap' cells, the numbers 'zs' (the first 'len' are its elements, the rest its spare room), each fitting its kind. -/
def IsRow (k : IntKind) (w : World) (a : Option Addr) (len cap : Nat) (zs : List Int) : Prop :=
  (a = none ∧ len = 0 ∧ cap = 0 ∧ zs = []) ∨
  ∃ x, a = some x ∧ len ≤ cap ∧ cap ≤ maxLen ∧ zs.length = cap ∧ (∀ i, i < zs.length → w.cell? (x.add i) = some (.int k (zs.getD i 0))) ∧ ∀ n ∈ zs, (Lit.int k n).wf = true

/-! ### STEP 1: THE WALK -/
theorem zz7 (a : Option Addr) (len cap : Nat) (i b : Int) (h : len ≤ 1048576) (w : World) :
    Calls Try.prog 7 #[.slice a len cap, .int .i64 i, .int .u8 b] w fun e w' => e = .returned (.bool true) ∧ w = w' := by
  go_enter Try.func7, Try.ntmps7
  go_wp2
  go_ret
  exact ⟨rfl, rfl⟩
theorem zz7_long (a : Option Addr) (len cap : Nat) (i b : Int) (h : 1048576 < len) (w : World) :
    Calls Try.prog 7 #[.slice a len cap, .int .i64 i, .int .u8 b] w fun e w' => e = .returned (.bool false) ∧ w = w' := by
  go_enter Try.func7, Try.ntmps7
  go_wp2
  go_ret
  exact ⟨rfl, rfl⟩

/-- too long: it returns true at once. -/
theorem walk_long (a : Option Addr) (len cap : Nat) (i b : Int) (h : 1048576 < len) (w : World) :
    Calls Try.prog 3 #[.slice a len cap, .int .i64 i, .int .u8 b] w fun e w' => e = .returned (.bool true) ∧ Below w.heap.size w w' := by
  have h9 := zz7_long a len cap i b h
  go_enter Try.func3, Try.ntmps3
  go_wp2_with (go_at_call 7; refine (h9 _).mono ?_; rintro e w' ⟨rfl, rfl⟩)
  go_ret
  exact ⟨rfl, Below.refl _ _⟩

/-- no place in the slice: it returns true at once. -/
theorem walk_neg (a : Option Addr) (len cap : Nat) (i b : Int) (h : len ≤ 1048576) (hi : i < 0) (w : World) :
    Calls Try.prog 3 #[.slice a len cap, .int .i64 i, .int .u8 b] w fun e w' => e = .returned (.bool true) ∧ Below w.heap.size w w' := by
  have h9 := zz7 a len cap i b h
  go_enter Try.func3, Try.ntmps3
  go_wp2_with (go_at_call 7; refine (h9 _).mono ?_; rintro e w' ⟨rfl, rfl⟩)
  go_ret
  exact ⟨rfl, Below.refl _ _⟩
theorem walk_past (a : Option Addr) (len cap : Nat) (i b : Int) (h : len ≤ 1048576) (hi0 : 0 ≤ i) (hi : (len : Int) < i) (w : World) :
    Calls Try.prog 3 #[.slice a len cap, .int .i64 i, .int .u8 b] w fun e w' => e = .returned (.bool true) ∧ Below w.heap.size w w' := by
  have h9 := zz7 a len cap i b h
  go_enter Try.func3, Try.ntmps3
  go_wp2_with (go_at_call 7; refine (h9 _).mono ?_; rintro e w' ⟨rfl, rfl⟩)
  go_ret
  exact ⟨rfl, Below.refl _ _⟩

/-- What one byte more does to a field's size. -/
theorem fsz_step (n : Int) (_h0 : 0 ≤ n) (_h1 : n ≤ 1048576) :
    (n < 2048 ∧ (n + 1 == 128) = false ∧ fsz (n + 1) = fsz n + 1) ∨ (n < 2048 ∧ (n + 1 == 128) = true ∧ fsz (n + 1) = fsz n + 2) ∨ (2048 ≤ n ∧ n ≤ 2048 ∧ (n == 2048) = true ∧ fsz (n + 1) = fsz n - 2044)
      ∨ (2048 ≤ n ∧ (n == 2048) = false ∧ (n + 1 == 16384) = true ∧ fsz (n + 1) = fsz n + 1) ∨ (2048 ≤ n ∧ (n == 2048) = false ∧ (n + 1 == 16384) = false ∧ fsz (n + 1) = fsz n) := by
  simp only [beq_eq_false_iff_ne, ne_eq, beq_iff_eq]
  unfold fsz uv
  repeat' split
  all_goals omega
theorem fsz_bounds (n : Int) (h0 : 0 ≤ n) (h1 : n ≤ 2097152) : 0 ≤ fsz n ∧ fsz n ≤ 4194304 := by
  have := uv_bounds n
  unfold fsz
  split <;> omega

theorem cells_cut {w : World} {g i m : Nat} {k : IntKind} {A : List Int} (hcell : ∀ t, t < A.length → w.cell? ⟨g, 0 + t, none⟩ = some (.int k (A.getD t 0)))
    {ao : Option Addr} (hao : ¬ m = 0 → ao = some ⟨g, i, none⟩) : ∀ ad, ao = some ad → ∀ t u, (((A.drop i).take m).map (Value.int k))[t]? = some u → w.cell? (ad.add t) = some u := by
  intro ad had t u hu
  have ht := (List.getElem?_eq_some_iff.1 hu).1
  simp only [List.length_map, List.length_take, List.length_drop] at ht
  rw [hao (by omega)] at had
  obtain rfl := Option.some.inj had
  have h := hcell (i + t) (by omega)
  rw [Nat.zero_add] at h
  rw [Addr.add_lit, h, ← hu]
  simp [List.getD, show i + t < A.length by omega, show t < m by omega]

theorem close (n : Int) (s s1 want : Int) (h0 : 0 ≤ n) (h1 : n ≤ 1048576) (hs : s = fsz n) (hs1 : s1 = fsz (n + 1))
    (hw : (n < 2048 ∧ (n + 1 == 128) = false ∧ want = 1) ∨ (n < 2048 ∧ (n + 1 == 128) = true ∧ want = 2) ∨ (2048 ≤ n ∧ (n == 2048) = true ∧ want = -2044) ∨ (2048 ≤ n ∧ (n == 2048) = false ∧ (n + 1 == 16384) = true ∧ want = 1) ∨ (2048 ≤ n ∧ (n == 2048) = false ∧ (n + 1 == 16384) = false ∧ want = 0)) :
    (wrap64 (s1 - s) == want) = true := by
  have b0 := fsz_bounds n h0 (by omega)
  have b1 := fsz_bounds (n + 1) (by omega) (by omega)
  have st := fsz_step n h0 h1
  simp only [beq_eq_false_iff_ne, ne_eq, beq_iff_eq] at st hw
  rw [← hs, ← hs1] at st
  rw [← hs] at b0
  rw [← hs1] at b1
  rw [beq_iff_eq]
  unfold wrap64
  clear hs hs1
  omega

set_option maxHeartbeats 1600000 in
set_option maxRecDepth 1000000 in
/-- The way through, not nil. -/
theorem walk_some (x : Addr) (len cap I : Nat) (b : Int) (zs : List Int) (w : World) (hl : len ≤ cap) (hz : zs.length = cap) (hlen : len ≤ 1048576) (hI : I ≤ len)
    (hcell : ∀ i, i < zs.length → w.cell? (x.add i) = some (.int .u8 (zs.getD i 0))) :
    Calls Try.prog 3 #[.slice (some x) len cap, .int .i64 (I : Int), .int .u8 b] w fun e w' => e = .returned (.bool true) ∧ Below w.heap.size w w' := by
  obtain ⟨i0, hi, hz0, hz1, hz2⟩ := info_parts info5
  obtain ⟨M, hM, hmk⟩ := make_ahead len (by omega)
  obtain ⟨Y, hY, hcp⟩ := copy_ahead M x len cap zs w hM hl hz hcell
  obtain ⟨L, hL⟩ : ∃ L, L = zs.take len := ⟨_, rfl⟩
  have hLl : L.length = len := by rw [hL]; simp; omega
  rw [← hL] at hY
  clear hcell hM hz hL
  have h7 := zz7 (some x) len cap (I : Int) b hlen
  have hne := fun w => run_neq_slice_nil_any (P := Try.prog) w 22 5 (some x) len cap 0 0 Try.underlying22
  obtain ⟨W1, hW1⟩ : ∃ W1, W1 = (w.alloc (.cells M 5)).setRow w.heap.size Y := ⟨_, rfl⟩
  have hb0 : Below w.heap.size w W1 := by rw [hW1]; exact below_setRow ((Below.refl _ _).alloc (Nat.le_refl _) _) (Nat.le_refl _) _
  have hs0 : w.heap.size < W1.heap.size := by rw [hW1]; simp [World.setRow]
  have hsrc : ∀ t, t < L.length → W1.cell? ⟨w.heap.size, 0 + t, none⟩ = some (.int .u8 (L.getD t 0)) := by
    intro t ht
    rw [hW1, Nat.zero_add, cell_setRow_same _ _ _ M Y 5 (0, 0) (heap_alloc_new w _), ← Array.getElem?_toList, hY]
    simp [List.getD, ht]
  rw [← hW1] at hcp
  clear hW1 hY
  have HL : Hid (L.length = len) := hLl
  clear hLl
  obtain ⟨s, hs⟩ : ∃ s, s = fsz (len : Int) := ⟨_, rfl⟩
  obtain ⟨s1, hs1⟩ : ∃ s1, s1 = fsz ((len : Int) + 1) := ⟨_, rfl⟩
  have k8 : ∀ a l c, l = len → ∀ w, Calls Try.prog 8 #[.slice a l c] w fun e w' => e = .returned (.int .i64 s) ∧ Below w.heap.size w w' := by
    rintro a l c rfl w
    rw [hs]
    exact zzfield a l c (by omega) w
  have k9 : ∀ a l c, l = len + 1 → ∀ w, Calls Try.prog 8 #[.slice a l c] w fun e w' => e = .returned (.int .i64 s1) ∧ Below w.heap.size w w' := by
    rintro a l c rfl w
    rw [hs1]
    exact zzfield a (len + 1) c (by omega) w
  have HS : Hid (s = fsz (len : Int) ∧ s1 = fsz ((len : Int) + 1)) := ⟨hs, hs1⟩
  clear hs hs1
  go_enter Try.func3, Try.ntmps3
  go_wp2_with (first
    | (go_at_call 7; refine (h7 _).mono ?_; rintro e w' ⟨rfl, rfl⟩)
    | (at_make; refine wpList_make_own _ rfl (.const (.int .i64 0)) (.tmp 41) 22 rfl w.heap.size 5 i0 (.int .u8 0) 1 Try.underlying22 hi hz0 hz1 _ _ _ (len + 1) rfl rfl (by omega) (by rw [hz2]; omega) (by unfold maxLen; omega) (by omega) ?_; intro w2 hown2 hgrow2; have hsrc2 := fun t h => hgrow2.cell (hsrc t h) (by simp); clear hsrc)
    | (at_builtin; refine wpList_append_fits_any _ rfl (.tmp 43) (.tmp 46) 22 rfl w.heap.size 5 i0 1 Try.underlying22 hi hz1 W1.heap.size 0 (len + 1) [] rfl hown2 _ I _ (((L.drop 0).take I).map (Value.int .u8)) rfl (by have := HL.out; simp; omega) (by intro h; first | cases h | (split at h <;> cases h)) (cells_cut hsrc2 (by intro h; first | rfl | simp [h])) (ints_oneCell _ _) (by omega) ?_; intro w3 hown3 hgrow3; simp only [Nat.zero_add, List.nil_append] at hown3; have hsrc3 := fun t h => hgrow3.cell (hsrc2 t h) (by intro e; have h2 : w.heap.size = W1.heap.size := Option.some.inj e; omega); clear hsrc2 hown2)
    | (at_builtin; refine wpList_append_fits _ rfl (.tmp 48) (.tmp 50) 22 rfl w.heap.size 5 i0 1 Try.underlying22 hi hz1 W1.heap.size I (len + 1) _ rfl (hown3.alloc _) ⟨w3.heap.size, 0, none⟩ 1 1 [.int .u8 b] rfl rfl (cell_one_new _ _ _) (by intro u hu; simp at hu; subst hu; rfl) (by omega) ?_; intro w4 hown4 hgrow4; clear hown3)
    | (at_builtin; refine wpList_append_fits_any _ rfl (.tmp 52) (.tmp 55) 22 rfl w.heap.size 5 i0 1 Try.underlying22 hi hz1 W1.heap.size (I + 1) (len + 1) _ rfl hown4 _ (len - I) _ (((L.drop I).take (len - I)).map (Value.int .u8)) rfl (by have := HL.out; simp; omega) (by intro h; first | cases h | (split at h <;> cases h)) (cells_cut (fun t h => hgrow4.cell ((World.cell?_alloc_lt w3 _ _ (block_lt_of_cell (hsrc3 t h))).trans (hsrc3 t h)) (by intro e; have h2 : w.heap.size = W1.heap.size := Option.some.inj e; omega)) (by intro h; first | rfl | simp [show ¬ len = I by omega])) (ints_oneCell _ _) (by omega) ?_; intro w5 hown5 hgrow5; clear hown4 hown5 hsrc3)
    | (go_at_call 8; refine (k8 _ _ _ ?_ _).mono ?_; (first | rfl | omega); rintro e w6 ⟨rfl, hb6⟩)
    | (go_at_call 8; refine (k9 _ _ _ ?_ _).mono ?_; omega; rintro e w7 ⟨rfl, hb7⟩))
  all_goals
    have B2 := hb0.grown hgrow2 (by omega) (fun k h => by cases h)
    have B3 := B2.grown hgrow3 B2.size (fun k h => by cases h; omega)
    have B4 := (B3.alloc B3.size _).grown hgrow4 (Nat.le_trans B3.size (by simp)) (fun k h => by cases h; omega)
    have B5 := B4.grown hgrow5 B4.size (fun k h => by cases h; omega)
    have hB := B5.trans ((hb6.mono B5.size).trans (hb7.mono (Nat.le_trans B5.size hb6.size)))
    obtain ⟨hs, hs1⟩ := HS.out
    clear hgrow2 hgrow3 hgrow4 hgrow5 B2 B3 B4 B5 HS k8 k9 h7 hne hcp hmk
    go_ret
    refine ⟨congrArg Ending.returned (congrArg Value.bool (close _ s s1 _ (by omega) (by omega) hs hs1 ?_)), hB⟩
    first
      | exact .inl ⟨by assumption, by assumption, rfl⟩
      | exact .inr (.inl ⟨by assumption, by assumption, rfl⟩)
      | exact .inr (.inr (.inl ⟨by assumption, by assumption, rfl⟩))
      | exact .inr (.inr (.inr (.inl ⟨by assumption, by assumption, by assumption, rfl⟩)))
      | exact .inr (.inr (.inr (.inr ⟨by assumption, by assumption, by assumption, rfl⟩)))

set_option maxHeartbeats 1600000 in
set_option maxRecDepth 1000000 in
theorem walk_nil (b : Int) (w : World) :
    Calls Try.prog 3 #[.slice none 0 0, .int .i64 0, .int .u8 b] w fun e w' => e = .returned (.bool true) ∧ Below w.heap.size w w' := by
  obtain ⟨i0, hi, hz0, hz1, hz2⟩ := info_parts info5
  have h7 := zz7 none 0 0 0 b (by omega)
  have hne := fun w => run_neq_slice_nil_any (P := Try.prog) w 22 5 none 0 0 0 0 Try.underlying22
  have e1 : fsz ((0 : Nat) : Int) = 1 := by decide
  have e2 : fsz ((1 : Nat) : Int) = 2 := by decide
  have k8 : ∀ a l c, l = 0 → ∀ w, Calls Try.prog 8 #[.slice a l c] w fun e w' => e = .returned (.int .i64 1) ∧ Below w.heap.size w w' := by
    rintro a l c rfl w
    rw [← e1]
    exact zzfield a 0 c (by omega) w
  have k9 : ∀ a l c, l = 1 → ∀ w, Calls Try.prog 8 #[.slice a l c] w fun e w' => e = .returned (.int .i64 2) ∧ Below w.heap.size w w' := by
    rintro a l c rfl w
    rw [← e2]
    exact zzfield a 1 c (by omega) w
  clear e1 e2
  go_enter Try.func3, Try.ntmps3
  go_wp2_with (first
    | (go_at_call 7; refine (h7 _).mono ?_; rintro e w' ⟨rfl, rfl⟩)
    | (at_make; refine wpList_make_own _ rfl (.const (.int .i64 0)) (.tmp 41) 22 rfl w.heap.size 5 i0 (.int .u8 0) 1 Try.underlying22 hi hz0 hz1 _ _ _ 1 rfl rfl (by omega) (by rw [hz2]; omega) (by unfold maxLen; omega) (Nat.le_refl _) ?_; intro w2 hown2 hgrow2)
    | (at_builtin; refine wpList_append_fits_any _ rfl (.tmp 43) (.tmp 46) 22 rfl w.heap.size 5 i0 1 Try.underlying22 hi hz1 w.heap.size 0 1 [] rfl hown2 _ 0 _ [] rfl rfl (by intro h; exact ⟨rfl, rfl⟩) (by intro ad h; cases h) (by intro u hu; cases hu) (by omega) ?_; intro w3 hown3 hgrow3; simp only [Nat.zero_add, List.nil_append] at hown3; clear hown2)
    | (at_builtin; refine wpList_append_fits _ rfl (.tmp 48) (.tmp 50) 22 rfl w.heap.size 5 i0 1 Try.underlying22 hi hz1 w.heap.size 0 1 _ rfl (hown3.alloc _) ⟨w3.heap.size, 0, none⟩ 1 1 [.int .u8 b] rfl rfl (cell_one_new _ _ _) (by intro u hu; simp at hu; subst hu; rfl) (by omega) ?_; intro w4 hown4 hgrow4; simp only [Nat.zero_add, List.nil_append] at hown4; clear hown3)
    | (at_builtin; refine wpList_append_fits_any _ rfl (.tmp 52) (.tmp 55) 22 rfl w.heap.size 5 i0 1 Try.underlying22 hi hz1 w.heap.size 1 1 _ rfl hown4 _ 0 _ [] rfl rfl (by intro h; exact ⟨rfl, rfl⟩) (by intro ad h; cases h) (by intro u hu; cases hu) (by omega) ?_; intro w5 hown5 hgrow5; clear hown4 hown5)
    | (go_at_call 8; refine (k8 _ _ _ ?_ _).mono ?_; omega; rintro e w6 ⟨rfl, hb6⟩)
    | (go_at_call 8; refine (k9 _ _ _ ?_ _).mono ?_; omega; rintro e w7 ⟨rfl, hb7⟩))
  have B2 := (Below.refl w.heap.size w).grown hgrow2 (Nat.le_refl _) (fun k h => by cases h)
  have B3 := B2.grown hgrow3 B2.size (fun k h => by cases h; exact Nat.le_refl _)
  have B4 := (B3.alloc B3.size _).grown hgrow4 (Nat.le_trans B3.size (by simp)) (fun k h => by cases h; exact Nat.le_refl _)
  have B5 := B4.grown hgrow5 B4.size (fun k h => by cases h; exact Nat.le_refl _)
  have hB := B5.trans ((hb6.mono B5.size).trans (hb7.mono (Nat.le_trans B5.size hb6.size)))
  go_ret
  exact ⟨rfl, hB⟩

theorem walk (a0 : Option Addr) (len0 cap0 : Nat) (z0 : List Int) (a1 : Int) (a2 : Int) (w : World) (w0 : IsRow .u8 w a0 len0 cap0 z0) (w1 : (Lit.int .i64 a1).wf = true) (w2 : (Lit.int .u8 a2).wf = true) :
    Calls Try.prog 3 #[.slice a0 len0 cap0, .int .i64 a1, .int .u8 a2] w fun e w' => e = .returned (.bool true) ∧ Below w.heap.size w w' := by
  by_cases h : len0 ≤ 1048576
  · by_cases n1 : a1 < 0
    · exact walk_neg a0 len0 cap0 a1 a2 h n1 w
    · by_cases n2 : (len0 : Int) < a1
      · exact walk_past a0 len0 cap0 a1 a2 h (by omega) n2 w
      · obtain ⟨I, rfl⟩ := Int.eq_ofNat_of_zero_le (show 0 ≤ a1 by omega)
        rcases w0 with ⟨rfl, rfl, rfl, rfl⟩ | ⟨x, rfl, hl, _, hz, hcell, _⟩
        · obtain rfl : I = 0 := by omega
          exact walk_nil a2 w
        · exact walk_some x len0 cap0 I a2 z0 w hl hz h (by omega) hcell
  · exact walk_long a0 len0 cap0 a1 a2 (by omega) w

/-! ### THE ROW's STEP: WRITTEN OUT: LEAVE IT -/
set_option maxRecDepth 100000 in
theorem lifted (os : Os) (started : os.Started) (H : Type) (enc : TypeId × Value → H) :
    ReturnsInHanded {} Try.checked os 3 .any (Rows.fnFieldSizeInsertByteSpec.pre6 enc Try.prog Try.f3 Rows.fnFieldSizeInsertByteRow.domain false) (Rows.fnFieldSizeInsertByteSpec.post enc Try.prog Try.f3 false true false false) := by
  refine returnsInHanded_of_change (C := Try.checked) own started (by kernel_rfl) Try.func3
    (ChangeSpec.witness6 (enc := enc) (C := Try.checked) false ⟨#[], #[.slice none 0 0, .int .i64 0, .int .u8 0], []⟩ 8 (by kernel_rfl) (by kernel_rfl) (by kernel_rfl) (by kernel_rfl)) ?_
  intro W base args ds gs before hval0 hW hcnd _
  have hval : ∀ (j : Nat) t v, Try.f3.params[j]? = some t → args[j]? = some v → Value.okWide Try.prog W .any base t v := hval0
  have hW' := hW
  obtain ⟨p, q, hA0, hV, rfl, hfz, hnd⟩ := hW
  have hA : DataW.TrodAll enc Try.prog W 0 (fun _ => true) true Try.f3.params.toList args.toList ds p := hA0
  rw [Try.params3] at hA hval
  obtain ⟨v0, vs0, d0, ds0, p0, q0, hargs, rfl, rfl, h0, r0⟩ := trodAll_cons hA
  obtain ⟨v1, vs1, d1, ds1, p1, q1, rfl, rfl, rfl, h1, r1⟩ := trodAll_cons r0
  obtain ⟨v2, vs2, d2, ds2, p2, q2, rfl, rfl, rfl, h2, r2⟩ := trodAll_cons r1
  obtain ⟨rfl, rfl, rfl⟩ := trodAll_nil r2
  obtain rfl : args = #[v0, v1, v2] := by cases args; simp_all
  obtain ⟨rfl, rfl⟩ := trodVars_none hV
  obtain ⟨a0, len0, cap0, rfl⟩ := okWide_slice Try.underlying22 (hval 0 22 v0 rfl rfl)
  have k0 := h0
  have lt0 : ∀ x ∈ p0, x.block < W.heap.size := by obtain ⟨m, hm⟩ := k0; exact DataW.trod_lt m _ _ _ hm
  obtain ⟨z0, w0⟩ : ∃ zs, IsRow .u8 W a0 len0 cap0 zs := by
    obtain ⟨fuel, hf⟩ := h0
    rcases open_ints Try.underlying22 Try.underlying5 (by kernel_rfl) hf with ⟨hcs, _⟩ | ⟨x, l, c, zs, hcs, _, hl, hm, hz, _, hcell, hwz⟩
    · simp [Value.cells] at hcs
      obtain ⟨rfl, rfl, rfl⟩ := hcs
      exact ⟨[], .inl ⟨rfl, rfl, rfl, rfl⟩⟩
    · simp [Value.cells] at hcs
      obtain ⟨rfl, rfl, rfl⟩ := hcs
      exact ⟨zs, .inr ⟨_, rfl, hl, hm, by simpa using hz, hcell, hwz⟩⟩
  obtain ⟨a1, rfl, rfl, rfl, w1⟩ := open_int Try.underlying3 (hval 1 3 v1 rfl rfl) h1
  obtain ⟨a2, rfl, rfl, rfl, w2⟩ := open_int Try.underlying5 (hval 2 5 v2 rfl rfl) h2
  clear hA0 hval0
  refine (walk a0 len0 cap0 z0 a1 a2 W w0 w1 w2).mono fun e W' ⟨he, bel⟩ => ?_
  subst he
  exact ⟨_, rfl, _, _, _, [], _, [], hW', trodAll_mk1 (shut_bool Try.underlying4 _), (trodAll_cons_mk (Below.trod laidOut (by kernel_rfl) (of_decide_eq_true (by kernel_rfl)) k0 bel lt0) (trodAll_cons_mk (shut_int Try.underlying3 w1) (trodAll_cons_mk (shut_int Try.underlying5 w2) trodAll_mk0))), rfl, bel.frame _, fun h => by cases h⟩

theorem over : Rows.fnFieldSizeInsertByteRow.holds Try.pinned (OpenSpec.ofChange Rows.fnFieldSizeInsertByteSpec) :=
  OpenClaim.holds_of_wide 3 Try.f3 rfl rfl rfl rfl rfl rfl rfl ⟨rfl, rfl, rfl, rfl, rfl⟩ rfl rfl rfl rfl rfl (by kernel_rfl) Try.func3 (by kernel_rfl)
    (of_decide_eq_true (by kernel_rfl)) (by unfold Func.isWrapper; first | (rw [if_pos (by decide +kernel)]; kernel_rfl) | (rw [if_neg (by decide +kernel)]; exact ⟨rfl, rfl⟩))
    (fun os started H enc _ => lifted os started H enc)

/-- ████ THE STATEMENT ████ -/
theorem proved : Rows.FnFieldSizeInsertByteSaid := over
end Go.Proofs.Qxb6615877a.fnFieldSizeInsertByte
