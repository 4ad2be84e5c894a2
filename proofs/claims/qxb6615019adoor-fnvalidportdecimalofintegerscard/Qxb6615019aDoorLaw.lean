/-
  FnValidPortDecimalOfIntegers, walked: zzItoa, ValidPort by their contracts.
-/
import Derived.Test.Qxb6615019aDoorItoa
import Derived.Lib.AppendStr
namespace Go.Proofs.Qxb6615019aDoor
open Go.RowKit Go.Shelf

theorem info5 : (Tryd.prog.info? 5).map (fun i => (i.zero, i.size, i.bytes)) = some (some (.int .u8 0), 1, 1) := by kernel_rfl

theorem Errs.size {w : World} (h : Errs w) : 2 ≤ w.heap.size := by
  obtain ⟨_, t, p, h1⟩ := h
  exact block_lt_of_cell h1

/-- A value that owns cells is no nil slice: its shape. -/
theorem own_shape {w : World} {base : Nat} {v : Value} {n : Nat} {xs : List Value} (h : w.ownsRow base 5 1 v n xs) (hn : 0 < n) : ∃ g c, v = .slice (some ⟨g, 0, none⟩) n c := by
  rcases h.2 with ⟨_, h0⟩ | ⟨g, c, cur, hv, _⟩
  · omega
  · exact ⟨g, c, hv⟩

/-- 'string(padded)', whatever blocks are made since. -/
theorem own_string {w : World} {base g c N : Nat} {l : List UInt8} (hN : l.length = N) (h : w.ownsRow base 5 1 (.slice (some ⟨g, 0, none⟩) N c) N (Lib.byteCells l)) (W : World) (hb : Below w.heap.size w W) :
    (convert 23 9 (.slice (some ⟨g, 0, none⟩) N c)).run Tryd.prog W = .ok (.string ⟨l.toArray⟩) W := by
  have hc := run_convert_bytes_back (P := Tryd.prog) W 23 9 5 ⟨g, 0, none⟩ c l Tryd.underlying23 Tryd.underlying5 Tryd.underlying9 (by
    intro j hj
    have h1 : w.cell? ((⟨g, 0, none⟩ : Addr).add j) = some (.int .u8 (l[j].toNat : Int)) := h.cells (g := g) rfl j _ (by simp [Lib.byteCells, hj])
    rw [hb.cell (block_lt_of_cell h1)]
    exact h1)
  rw [hN] at hc
  exact hc

theorem own_cells (k : Nat) (D : List UInt8) : Lib.byteCells (List.replicate k 48) ++ Lib.strCells ⟨D.toArray⟩ = Lib.byteCells (List.replicate k 48 ++ D) := by
  simp [Lib.byteCells, Lib.strCells]

theorem walk_neg (n z : Int) (hz : z < 0) (w : World) :
    Calls Tryd.prog 3 #[.int .i64 n, .int .i64 z] w fun e w' => e = .returned (.bool true) ∧ Below w.heap.size w w' := by
  go_enter Tryd.func3, Tryd.ntmps3
  go_wp2
  go_ret
  exact ⟨rfl, Below.refl _ _⟩
theorem walk_much (n z : Int) (hz0 : 0 ≤ z) (hz : 4096 < z) (w : World) :
    Calls Tryd.prog 3 #[.int .i64 n, .int .i64 z] w fun e w' => e = .returned (.bool true) ∧ Below w.heap.size w w' := by
  go_enter Tryd.func3, Tryd.ntmps3
  go_wp2
  go_ret
  exact ⟨rfl, Below.refl _ _⟩

set_option maxHeartbeats 1600000 in
set_option maxRecDepth 100000 in
theorem walk_in (n : Int) (Z : Nat) (h0 : -9223372036854775808 ≤ n) (h1 : n ≤ 9223372036854775807) (hZ : Z ≤ 4096) (w : World) (he : Errs w) :
    Calls Tryd.prog 3 #[.int .i64 n, .int .i64 (Z : Int)] w fun e w' => e = .returned (.bool true) ∧ Below w.heap.size w w' := by
  obtain ⟨i0, hi, hz0, hz1, hz2⟩ := info_parts info5
  obtain ⟨b, hb⟩ : ∃ b, b = (decide (1 ≤ n) && decide (n ≤ 65535)) := ⟨_, rfl⟩
  obtain ⟨D, hD⟩ : ∃ D, D = Lib.itoa n := ⟨_, rfl⟩
  obtain ⟨PD, hPD⟩ : ∃ PD, PD = List.replicate Z (48 : UInt8) ++ D := ⟨_, rfl⟩
  have hDl : D.length ≤ 21 := by rw [hD]; exact itoa_length n h0 h1
  have hDp : 0 < D.length := by rw [hD]; exact List.length_pos_iff.2 (itoa_ne n)
  have hPl : PD.length = Z + D.length := by rw [hPD]; simp
  have k4 := zzitoa n h0 h1 w
  rw [← hD] at k4
  have k5 : ∀ l, (l = D ∨ l = PD) → ∀ W, Errs W → Calls Tryd.prog 5 #[.string ⟨l.toArray⟩] W fun e w' => e = .returned (.bool b) ∧ Below W.heap.size W w' := by
    intro l hl W hW
    have hs : (⟨l.toArray⟩ : ByteArray).size ≤ 281474976710656 := by
      show l.toArray.size ≤ _
      rcases hl with rfl | rfl
      · simp; omega
      · simp; omega
    have hv : vp l = b := by
      rcases hl with rfl | rfl
      · have := vp_itoa 0 n
        rw [hb, hD]
        simpa using this
      · rw [hPD, hD, hb]
        exact vp_itoa Z n
    have h := validPort ⟨l.toArray⟩ hs W hW
    rw [show (⟨l.toArray⟩ : ByteArray).data.toList = l by simp, hv] at h
    exact h
  have HP : Hid (PD = List.replicate Z (48 : UInt8) ++ D ∧ PD.length = Z + D.length) := ⟨hPD, hPl⟩
  clear hPD hPl hD
  have H5 := Lib.hid k5
  clear k5
  have H4 := Lib.hid k4
  clear k4
  rcases (show (n < 1 ∧ b = false) ∨ (1 ≤ n ∧ n ≤ 65535 ∧ b = true) ∨ (1 ≤ n ∧ 65535 < n ∧ b = false) by
    by_cases c1 : 1 ≤ n
    · by_cases c2 : n ≤ 65535
      · exact .inr (.inl ⟨c1, c2, by simp [hb, c1, c2]⟩)
      · exact .inr (.inr ⟨c1, by omega, by simp [hb, c2]⟩)
    · exact .inl ⟨by omega, by simp [hb, c1]⟩) with ⟨c1, hbb⟩ | ⟨c1, c2, hbb⟩ | ⟨c1, c2, hbb⟩
  all_goals
    rw [hbb] at H5
    clear hb hbb
    go_enter Tryd.func3, Tryd.ntmps3
    go_wp2_with (first
      | (go_at_call 4; refine H4.out.mono ?_; rintro e w1 ⟨rfl, hb1⟩)
      | (at_make; refine wpList_make_own _ rfl (.const (.int .i64 0)) (.tmp 20) 23 rfl w.heap.size 5 i0 (.int .u8 0) 1 Tryd.underlying23 hi hz0 hz1 _ _ _ (Z + D.length) rfl rfl (by omega) (by rw [hz2]; omega) (by unfold maxLen; omega) hb1.size ?_; intro w2 hown2 hgrow2))
    have hb2 := hb1.grown hgrow2 hb1.size (fun k h => by cases h)
    have hg0 := hb1.size
    generalize w1.heap.size = G at hown2 hg0 ⊢
    clear hgrow2 hb1
    go_loopw [6, 7] (fun out i wr => ∃ k : Nat, k ≤ Z ∧ i = .int .i64 (k : Int) ∧ out = .slice (some ⟨G, 0, none⟩) k (Z + D.length) ∧ wr.ownsRow w.heap.size 5 1 (.slice (some ⟨G, 0, none⟩) k (Z + D.length)) k (Lib.byteCells (List.replicate k 48)) ∧ Below w.heap.size w wr) (fun _ i _ => Z - (intOf i).toNat)
    case atStart => exact ⟨0, Nat.zero_le _, rfl, rfl, hown2, hb2⟩
    case round =>
      obtain ⟨k, hk, rfl, rfl, hown, hB⟩ := hrel
      clear hown2 hb2
      by_cases hkl : k < Z
      · go_wp2_with (at_builtin; refine wpList_append_fits _ rfl (.tmp 27) (.tmp 28) 23 rfl w.heap.size 5 i0 1 Tryd.underlying23 hi hz1 G k (Z + D.length) _ rfl (hown.alloc _) ⟨wr.heap.size, 0, none⟩ 1 1 [.int .u8 48] rfl rfl (cell_one_new _ _ _) (by intro u hu; simp at hu; subst hu; rfl) (by omega) ?_; intro w3 hown3 hgrow3)
        have hB3 := (hB.alloc hB.size _).grown hgrow3 (Nat.le_trans hB.size (by simp)) (fun k h => by cases h; exact hg0)
        clear hown hB hgrow3
        go_roundw
        case rel => exact ⟨k + 1, hkl, by go_num, rfl, by rw [show Lib.byteCells (List.replicate (k + 1) 48) = Lib.byteCells (List.replicate k 48) ++ [.int .u8 48] by rw [List.replicate_succ']; simp [Lib.byteCells]]; exact hown3, hB3⟩
        case measure => simp [intOf]; omega
      · obtain rfl : k = Z := by omega
        go_wp2_with (first
          | (at_builtin; refine Lib.wpList_append_own_string _ rfl (.tmp 30) (.tmp 31) 23 9 rfl w.heap.size 5 i0 Tryd.underlying23 Tryd.underlying9 hi hz0 hz1 hz2 _ k _ rfl hown ⟨D.toArray⟩ rfl (by unfold maxLen; show k + D.toArray.size ≤ _; simp; omega) (by show k + D.toArray.size ≤ _; simp; omega) hB.size ?_; intro v4 w4 hown4 hgrow4 _; refine Hid.out ?_))
        obtain ⟨hPD, hPl⟩ := HP.out
        have hB4 := hB.grown hgrow4 hB.size (fun j h => by cases h; exact hg0)
        have he4 := he.on hB4 he.size
        have hown5 : w4.ownsRow w.heap.size 5 1 v4 (k + D.length) (Lib.byteCells PD) := by
          rw [own_cells k D, ← hPD] at hown4
          exact hown4
        obtain ⟨g, c, hv⟩ := own_shape hown5 (by omega)
        rw [hv] at hown5 ⊢
        have hcv := own_string hPl hown5
        clear hown hown4 hown5 hgrow4 hPD hPl hv
        refine Lib.hid ?_
        go_wp2_with (first
          | (go_at_call 5; refine (H5.out _ ?_ _ ?_).mono ?_; exact .inl rfl; exact he4; rintro e w6 ⟨rfl, hb6⟩; have he6 := he4.on hb6 he4.size; have hcv6 := hcv _ hb6)
          | (go_at_call 5; refine (H5.out _ ?_ _ ?_).mono ?_; exact .inr rfl; exact he6; rintro e w7 ⟨rfl, hb7⟩))
        go_ret
        refine ⟨?_, hB4.trans ((hb6.mono hB4.size).trans (hb7.mono (Nat.le_trans hB4.size hb6.size)))⟩
        first
          | rfl
          | exact congrArg Ending.returned (congrArg Value.bool (show (!decide (n ≤ 65535)) = true by have : ¬ n ≤ 65535 := (by omega); simp [this]))

/-- THE LAW's WALK, for every int64 and every int. -/
theorem walk (n z : Int) (h0 : -9223372036854775808 ≤ n) (h1 : n ≤ 9223372036854775807) (w : World) (he : Errs w) :
    Calls Tryd.prog 3 #[.int .i64 n, .int .i64 z] w fun e w' => e = .returned (.bool true) ∧ Below w.heap.size w w' := by
  by_cases c1 : z < 0
  · exact walk_neg n z c1 w
  · by_cases c2 : 4096 < z
    · exact walk_much n z (by omega) c2 w
    · obtain ⟨Z, rfl⟩ := Int.eq_ofNat_of_zero_le (show 0 ≤ z by omega)
      exact walk_in n Z h0 h1 (by omega) w he
end Go.Proofs.Qxb6615019aDoor
