/-
  FnOverlaysSizeInsert, walked: where low and high are nil (N) or not (S)
-/
import Derived.Test.Qxb6615877aIns
namespace Go.Proofs.Qxb6615877a
open Go.RowKit

set_option maxRecDepth 100000 in
set_option maxHeartbeats 6400000 in
theorem walk_NS (a b : Option Addr) (n ca cb : Nat) (I : Nat) (hI : I ≤ n) (Lo Hi : List (Option Addr × Nat × Nat)) (y : Addr) (dl dc : Nat) (zh : List Int) (hdl : dl ≤ 1048576) (hh1 : dl ≤ dc) (hh2 : zh.length = dc) (w : World) (hx : Holds2 w a n ca Lo) (hy : Holds2 w b n cb Hi) (hn : n ≤ 65536) (hh3 : ∀ i, i < zh.length → w.cell? (y.add i) = some (.int .u8 (zh.getD i 0))) :
    Calls Try.prog 6 #[.slice a n ca, .slice b n cb, .int .i64 (I : Int), .slice none 0 0, .slice (some y) dl dc] w fun e w' => e = .returned (.bool true) ∧ Below w.heap.size w w' := by
  obtain ⟨i0, hi, hz0, hz1, hz2⟩ := info_parts info22
  have hneL := fun w => run_neq_slice_nil_any (P := Try.prog) w 22 5 none 0 0 0 0 Try.underlying22
  have hneH := fun w => run_neq_slice_nil_any (P := Try.prog) w 22 5 (some y) dl dc 0 0 Try.underlying22
  obtain ⟨M2, W2, hmk2, hcp2, hbW2⟩ := clone_ahead y dl dc zh w hdl hh1 hh2 hh3
  have hbW := hbW2
  clear hh3 hh2
  have k14 := Lib.hid (zz14 a b none (some y) n n ca cb 0 0 dl dc (I : Int) Lo Hi w hx hy)
  have k12 := Lib.hid (fun h1 h2 => pairs a b n n ca cb Lo Hi hn hn h1 h2 w hx hy)
  have k15 := Lib.hid addlen
  have hcc : n ≤ ca := hx.2.1
  have hcb : n ≤ cb := hy.2.1
  have HX := Lib.hid hx
  have HY := Lib.hid hy
  clear hx hy
  go_enter Try.func6, Try.ntmps6
  go_wp2_with (first
    | (go_at_call 14; refine k14.out.mono ?_; rintro e w' ⟨rfl, (rfl | ⟨rfl, hlo, hhi, hcl', hdl'⟩)⟩)
    | (go_at_call 12; refine (k12.out hlo hhi).mono ?_; rintro e w' ⟨rfl, s1, rfl, hs0, hs1⟩)
    | (go_at_call 15; refine (k15.out _ _ ?_ ?_ ?_ ?_ _).mono ?_; omega; omega; omega; omega; rintro e w' ⟨rfl, s2, rfl, hs20, hs21⟩)
    | (at_make; refine wpList_make_own _ rfl (.const (.int .i64 0)) (.tmp 87) 28 rfl 0 22 i0 (.slice none 0 0) 1 Try.underlying28 hi hz0 hz1 _ _ _ (n + 1) rfl rfl (by omega) (by rw [hz2]; omega) (by unfold maxLen; omega) (Nat.zero_le _) ?_; intro w2 hown2 hgrow2; refine Hid.out ?_))
  · go_ret
    exact ⟨rfl, Below.refl _ _⟩
  · go_ret
    exact ⟨rfl, Below.refl _ _⟩
  refine Lib.hid ?_
  clear k14 k12 k15 hneL hneH hmk2 hcp2
  obtain ⟨G, hG⟩ : ∃ G, G = W2.heap.size := ⟨_, rfl⟩
  have hGB : w.heap.size ≤ G := by rw [hG]; exact hbW.size
  have hb2 := hbW.grown hgrow2 hbW.size (fun k h => by cases h)
  rw [← hG] at hown2 ⊢
  have HG := Lib.hid hG
  clear hgrow2 hG
  have hLl := HX.out.1
  have hHl := HY.out.1
  have HLl := Lib.hid hLl
  have HHl := Lib.hid hHl
  clear hLl hHl
  go_wp2_with (first
    | (at_builtin; refine wpList_append_fits_any _ rfl (.tmp 89) (.tmp 92) 28 rfl 0 22 i0 1 Try.underlying28 hi hz1 G 0 (n + 1) [] rfl hown2 _ I _ ((Lo.take I).map sv) rfl (by have := HLl.out; simp; omega) (src_front (HX.out.on hb2) hI (by first | rfl | simp)).1 (src_front (HX.out.on hb2) hI (by first | rfl | simp)).2 (sv_oneCell _) (by omega) ?_; intro w3 hown3 hgrow3; simp only [Nat.zero_add, List.nil_append] at hown3; have hb3 := hb2.grown hgrow3 hb2.size (fun k h => by cases h; exact hGB); clear hown2 hb2 hgrow3)
    | (at_builtin; refine wpList_append_fits _ rfl (.tmp 94) (.tmp 96) 28 rfl 0 22 i0 1 Try.underlying28 hi hz1 G I (n + 1) _ rfl (hown3.alloc _) ⟨w3.heap.size, 0, none⟩ 1 1 [sv (none, 0, 0)] rfl rfl (cell_one_new _ _ _) (by intro u hu; simp at hu; subst hu; rfl) (by omega) ?_; intro w4 hown4 hgrow4; have hb4 := (hb3.alloc hb3.size _).grown hgrow4 (Nat.le_trans hb3.size (by simp)) (fun k h => by cases h; exact hGB); clear hown3 hb3 hgrow4)
    | (at_builtin; refine wpList_append_fits_any _ rfl (.tmp 98) (.tmp 101) 28 rfl 0 22 i0 1 Try.underlying28 hi hz1 G (I + 1) (n + 1) _ rfl hown4 _ (n - I) _ ((Lo.drop I).map sv) rfl (by have := HLl.out; simp; omega) (src_back (HX.out.on hb4) (by intro h; simp [h]) (by intro x h; simp [h]; try (split <;> simp)) (by intro hlt x h; first | (exfalso; omega) | (simp [h, show ¬ ca = I by omega]; done))).1 (src_back (HX.out.on hb4) (by intro h; simp [h]) (by intro x h; simp [h]; try (split <;> simp)) (by intro hlt x h; first | (exfalso; omega) | (simp [h, show ¬ ca = I by omega]; done))).2 (sv_oneCell _) (by omega) ?_; intro w5 hown5 hgrow5; refine Hid.out ?_))
  all_goals
    have hN := own_ins HLl.out hI hown5
    have hb5 := hb4.grown hgrow5 hb4.size (fun k h => by cases h; exact hGB)
    clear hown5 hb4 hgrow5
    refine Lib.hid ?_
    go_wp2_with (first
      | (at_make; refine wpList_make_own _ rfl (.const (.int .i64 0)) (.tmp 104) 28 rfl 0 22 i0 (.slice none 0 0) 1 Try.underlying28 hi hz0 hz1 _ _ _ (n + 1) rfl rfl (by omega) (by rw [hz2]; omega) (by unfold maxLen; omega) (Nat.zero_le _) ?_; intro w6 hown6 hgrow6; refine Hid.out ?_))
    obtain ⟨G2, hG2⟩ : ∃ G2, G2 = w5.heap.size := ⟨_, rfl⟩
    have hGB2 : w.heap.size ≤ G2 := by rw [hG2]; exact hb5.size
    have hb6 := hb5.grown hgrow6 hb5.size (fun k h => by cases h)
    have hd6 := (Below.refl w5.heap.size w5).grown hgrow6 (Nat.le_refl _) (fun k h => by cases h)
    rw [← hG2] at hown6 ⊢
    have HG2 := Lib.hid hG2
    have HN := Lib.hid hN
    clear hgrow6 hG2 hN hb5
    refine Lib.hid ?_
    go_wp2_with (first
      | (at_builtin; refine wpList_append_fits_any _ rfl (.tmp 106) (.tmp 109) 28 rfl 0 22 i0 1 Try.underlying28 hi hz1 G2 0 (n + 1) [] rfl hown6 _ I _ ((Hi.take I).map sv) rfl (by have := HHl.out; simp; omega) (src_front (HY.out.on hb6) hI (by first | rfl | simp)).1 (src_front (HY.out.on hb6) hI (by first | rfl | simp)).2 (sv_oneCell _) (by omega) ?_; intro w7 hown7 hgrow7; simp only [Nat.zero_add, List.nil_append] at hown7; have hb7 := hb6.grown hgrow7 hb6.size (fun k h => by cases h; exact hGB2); have hd7 := hd6.grown hgrow7 hd6.size (fun k h => by cases h; exact Nat.le_of_eq HG2.out.symm); clear hown6 hb6 hd6 hgrow7)
      | (at_builtin; refine wpList_append_fits _ rfl (.tmp 111) (.tmp 113) 28 rfl 0 22 i0 1 Try.underlying28 hi hz1 G2 I (n + 1) _ rfl (hown7.alloc _) ⟨w7.heap.size, 0, none⟩ 1 1 [sv (some ⟨w.heap.size, 0, none⟩, dl, dl)] rfl rfl (cell_one_new _ _ _) (by intro u hu; simp at hu; subst hu; rfl) (by omega) ?_; intro w8 hown8 hgrow8; have hb8 := (hb7.alloc hb7.size _).grown hgrow8 (Nat.le_trans hb7.size (by simp)) (fun k h => by cases h; exact hGB2); have hd8 := (hd7.alloc hd7.size _).grown hgrow8 (Nat.le_trans hd7.size (by simp)) (fun k h => by cases h; exact Nat.le_of_eq HG2.out.symm); clear hown7 hb7 hd7 hgrow8)
      | (at_builtin; refine wpList_append_fits_any _ rfl (.tmp 115) (.tmp 118) 28 rfl 0 22 i0 1 Try.underlying28 hi hz1 G2 (I + 1) (n + 1) _ rfl hown8 _ (n - I) _ ((Hi.drop I).map sv) rfl (by have := HHl.out; simp; omega) (src_back (HY.out.on hb8) (by intro h; simp [h]) (by intro x h; simp [h]; try (split <;> simp)) (by intro hlt x h; first | (exfalso; omega) | (simp [h, show ¬ cb = I by omega]; done))).1 (src_back (HY.out.on hb8) (by intro h; simp [h]) (by intro x h; simp [h]; try (split <;> simp)) (by intro hlt x h; first | (exfalso; omega) | (simp [h, show ¬ cb = I by omega]; done))).2 (sv_oneCell _) (by omega) ?_; intro w9 hown9 hgrow9; refine Hid.out ?_))
  all_goals
    have hM := own_ins HHl.out hI hown9
    have hb9 := hb8.grown hgrow9 hb8.size (fun k h => by cases h; exact hGB2)
    have hd9 := hd8.grown hgrow9 hd8.size (fun k h => by cases h; exact Nat.le_of_eq HG2.out.symm)
    have hN9 := HN.out.on hd9
    clear hown9 hb8 hd8 hgrow9 hd9 HN HG2 hGB hGB2
    obtain ⟨F, hF⟩ : ∃ F : Nat → Int, ∀ l, F l = fsz l := ⟨_, fun _ => rfl⟩
    have sm1 := hlo.small HLl.out
    have sm2 := hhi.small HHl.out
    have sm3 := sm1.ins (t := (none, 0, 0)) (I := I) (by have := HLl.out; omega) (show 0 < 2097152 by omega)
    have sm4 := sm2.ins (t := (some ⟨w.heap.size, 0, none⟩, dl, dl)) (I := I) (by have := HHl.out; omega) (show dl < 2097152 by omega)
    obtain ⟨s0, hs0'⟩ : ∃ s0, s0 = osz Lo Hi n := ⟨_, rfl⟩
    obtain ⟨s1', hs1'⟩ : ∃ s1, s1 = osz (Lo.take I ++ (none, 0, 0) :: Lo.drop I) (Hi.take I ++ (some ⟨w.heap.size, 0, none⟩, dl, dl) :: Hi.drop I) (n + 1) := ⟨_, rfl⟩
    have c1 : ∀ a' l1 c1 b' l2 c2, (a' = a ∧ l1 = n ∧ c1 = ca ∧ b' = b ∧ l2 = n ∧ c2 = cb) → ∀ W, Below w9.heap.size w9 W → Calls Try.prog 13 #[.slice a' l1 c1, .slice b' l2 c2] W fun e w' => e = .returned (.int .i64 s0) ∧ Below W.heap.size W w' := by
      rintro a' l1 c1 b' l2 c2 ⟨rfl, rfl, rfl, rfl, rfl, rfl⟩ W hW
      rw [hs0']
      exact zzover a' b' _ c1 c2 Lo Hi sm1 sm2 (by omega) W ((HX.out.on hb9).on hW) ((HY.out.on hb9).on hW)
    have c2 : ∀ a' l1 c1 b' l2 c2, (a' = some ⟨G, 0, none⟩ ∧ l1 = n + 1 ∧ c1 = n + 1 ∧ b' = some ⟨G2, 0, none⟩ ∧ l2 = n + 1 ∧ c2 = n + 1) → ∀ W, Below w9.heap.size w9 W → Calls Try.prog 13 #[.slice a' l1 c1, .slice b' l2 c2] W fun e w' => e = .returned (.int .i64 s1') ∧ Below W.heap.size W w' := by
      rintro a' l1 c1 b' l2 c2 ⟨rfl, rfl, rfl, rfl, rfl, rfl⟩ W hW
      rw [hs1']
      have e : I + 1 + (n - I) = n + 1 := by omega
      rw [e] at hN9 hM
      exact zzover _ _ (n + 1) (n + 1) (n + 1) _ _ sm3 sm4 (by omega) W (hN9.on hW) (hM.on hW)
    have k8 : ∀ a' (l : Nat) c', l < 2097152 → ∀ W, Calls Try.prog 8 #[.slice a' l c'] W fun e w' => e = .returned (.int .i64 (F l)) ∧ Below W.heap.size W w' := by
      intro a' l c' h W
      rw [hF]
      exact zzfield a' l c' h W
    have bl : 0 ≤ F 0 ∧ F 0 ≤ 4194304 := by rw [hF]; exact fsz_range _ (by omega)
    have bh : 0 ≤ F dl ∧ F dl ≤ 4194304 := by rw [hF]; exact fsz_range _ (by omega)
    have r0 : 0 ≤ s0 ∧ s0 ≤ 8388628 * 65536 + 2 := by
      rw [hs0']; have := psum_range sm1 sm2 n; unfold osz; split <;> omega
    have r1 : 0 ≤ s1' ∧ s1' ≤ 8388628 * 65537 + 2 := by
      rw [hs1']; have := psum_range sm3 sm4 (n + 1); unfold osz; split <;> omega
    have hfin : s1' = s0 + (F 0 + F dl + 20) + (if n = 0 then 2 else 0) := by
      have hp := psum_ins (t := (none, 0, 0)) (u := (some ⟨w.heap.size, 0, none⟩, dl, dl)) HLl.out HHl.out hI
      dsimp only at hp
      rw [hs1', hs0']
      simp only [hF]
      unfold osz
      rw [if_neg (by omega), hp]
      split
      · rename_i h0
        rw [h0]
        simp only [psum]
        omega
      · omega
    have HC1 := Lib.hid c1
    have HC2 := Lib.hid c2
    have HK8 := Lib.hid k8
    have HFIN := Lib.hid hfin
    have HB9 := Lib.hid hb9
    obtain ⟨bl1, bl2⟩ := bl
    obtain ⟨bh1, bh2⟩ := bh
    obtain ⟨r01, r02⟩ := r0
    obtain ⟨r11, r12⟩ := r1
    clear c1 c2 k8 hfin hb9 hN9 hM hF sm1 sm2 sm3 sm4 hs0' hs1' HX HY hlo hhi
    refine Lib.hid ?_
    go_wp2_with (first
      | (go_at_call 13; refine (HC1.out _ _ _ _ _ _ ?_ _ ?_).mono ?_; exact ⟨rfl, by omega, by omega, rfl, by omega, by omega⟩; exact Below.refl _ _; rintro e w10 ⟨rfl, hb10⟩)
      | (go_at_call 13; refine (HC2.out _ _ _ _ _ _ ?_ _ ?_).mono ?_; exact ⟨rfl, by omega, by omega, rfl, by omega, by omega⟩; exact hb10; rintro e w11 ⟨rfl, hb11'⟩; have hb11 := hb10.trans (hb11'.mono hb10.size); clear hb11' hb10)
      | (go_at_call 8; refine (HK8.out _ _ _ ?_ _).mono ?_; omega; rintro e w12 ⟨rfl, hb12⟩; refine Hid.out ?_))
    refine Lib.hid ?_
    have hb13 := hb11.trans (hb12.mono hb11.size)
    clear hb11 hb12
    go_wp2_with (first
      | (go_at_call 8; refine (HK8.out _ _ _ ?_ _).mono ?_; omega; rintro e w14 ⟨rfl, hb14⟩))
    all_goals
      have hB := HB9.out.trans ((hb13.mono HB9.out.size).trans (hb14.mono (Nat.le_trans HB9.out.size hb13.size)))
      have hfin := HFIN.out
      clear HC1 HC2 HK8 HFIN HB9 hb13 hb14
      go_ret
      refine ⟨congrArg Ending.returned (congrArg Value.bool (beq_iff_eq.2 ?_)), hB⟩
      clear hB
      simp only [beq_iff_eq, beq_eq_false_iff_ne, ne_eq] at *
      split at hfin <;> omega

set_option maxRecDepth 100000 in
set_option maxHeartbeats 6400000 in
theorem neg_NS (a b : Option Addr) (n ca cb : Nat) (i : Int) (hi1 : i < 0) (Lo Hi : List (Option Addr × Nat × Nat)) (y : Addr) (dl dc : Nat) (zh : List Int) (hdl : dl ≤ 1048576) (hh1 : dl ≤ dc) (hh2 : zh.length = dc) (w : World) (hx : Holds2 w a n ca Lo) (hy : Holds2 w b n cb Hi) (hn : n ≤ 65536) (hh3 : ∀ i, i < zh.length → w.cell? (y.add i) = some (.int .u8 (zh.getD i 0))) :
    Calls Try.prog 6 #[.slice a n ca, .slice b n cb, .int .i64 i, .slice none 0 0, .slice (some y) dl dc] w fun e w' => e = .returned (.bool true) ∧ Below w.heap.size w w' := by
  obtain ⟨i0, hi, hz0, hz1, hz2⟩ := info_parts info22
  have hneL := fun w => run_neq_slice_nil_any (P := Try.prog) w 22 5 none 0 0 0 0 Try.underlying22
  have hneH := fun w => run_neq_slice_nil_any (P := Try.prog) w 22 5 (some y) dl dc 0 0 Try.underlying22
  obtain ⟨M2, W2, hmk2, hcp2, hbW2⟩ := clone_ahead y dl dc zh w hdl hh1 hh2 hh3
  have hbW := hbW2
  clear hh3 hh2
  have k14 := Lib.hid (zz14 a b none (some y) n n ca cb 0 0 dl dc i Lo Hi w hx hy)
  have k12 := Lib.hid (fun h1 h2 => pairs a b n n ca cb Lo Hi hn hn h1 h2 w hx hy)
  have k15 := Lib.hid addlen
  clear hx hy
  go_enter Try.func6, Try.ntmps6
  go_wp2_with (first
    | (go_at_call 14; refine k14.out.mono ?_; rintro e w' ⟨rfl, (rfl | ⟨rfl, hlo, hhi, hcl', hdl'⟩)⟩)
    | (go_at_call 12; refine (k12.out hlo hhi).mono ?_; rintro e w' ⟨rfl, s1, rfl, hs0, hs1⟩)
    | (go_at_call 15; refine (k15.out _ _ ?_ ?_ ?_ ?_ _).mono ?_; omega; omega; omega; omega; rintro e w' ⟨rfl, s2, rfl, hs20, hs21⟩))
  · go_ret
    exact ⟨rfl, Below.refl _ _⟩
  · go_ret
    exact ⟨rfl, Below.refl _ _⟩
  · go_ret
    exact ⟨rfl, hbW⟩

set_option maxRecDepth 100000 in
set_option maxHeartbeats 6400000 in
theorem past_NS (a b : Option Addr) (n ca cb : Nat) (i : Int) (hi1 : 0 ≤ i) (hi2 : (n : Int) < i) (Lo Hi : List (Option Addr × Nat × Nat)) (y : Addr) (dl dc : Nat) (zh : List Int) (hdl : dl ≤ 1048576) (hh1 : dl ≤ dc) (hh2 : zh.length = dc) (w : World) (hx : Holds2 w a n ca Lo) (hy : Holds2 w b n cb Hi) (hn : n ≤ 65536) (hh3 : ∀ i, i < zh.length → w.cell? (y.add i) = some (.int .u8 (zh.getD i 0))) :
    Calls Try.prog 6 #[.slice a n ca, .slice b n cb, .int .i64 i, .slice none 0 0, .slice (some y) dl dc] w fun e w' => e = .returned (.bool true) ∧ Below w.heap.size w w' := by
  obtain ⟨i0, hi, hz0, hz1, hz2⟩ := info_parts info22
  have hneL := fun w => run_neq_slice_nil_any (P := Try.prog) w 22 5 none 0 0 0 0 Try.underlying22
  have hneH := fun w => run_neq_slice_nil_any (P := Try.prog) w 22 5 (some y) dl dc 0 0 Try.underlying22
  obtain ⟨M2, W2, hmk2, hcp2, hbW2⟩ := clone_ahead y dl dc zh w hdl hh1 hh2 hh3
  have hbW := hbW2
  clear hh3 hh2
  have k14 := Lib.hid (zz14 a b none (some y) n n ca cb 0 0 dl dc i Lo Hi w hx hy)
  have k12 := Lib.hid (fun h1 h2 => pairs a b n n ca cb Lo Hi hn hn h1 h2 w hx hy)
  have k15 := Lib.hid addlen
  clear hx hy
  go_enter Try.func6, Try.ntmps6
  go_wp2_with (first
    | (go_at_call 14; refine k14.out.mono ?_; rintro e w' ⟨rfl, (rfl | ⟨rfl, hlo, hhi, hcl', hdl'⟩)⟩)
    | (go_at_call 12; refine (k12.out hlo hhi).mono ?_; rintro e w' ⟨rfl, s1, rfl, hs0, hs1⟩)
    | (go_at_call 15; refine (k15.out _ _ ?_ ?_ ?_ ?_ _).mono ?_; omega; omega; omega; omega; rintro e w' ⟨rfl, s2, rfl, hs20, hs21⟩))
  · go_ret
    exact ⟨rfl, Below.refl _ _⟩
  · go_ret
    exact ⟨rfl, Below.refl _ _⟩
  · go_ret
    exact ⟨rfl, hbW⟩


end Go.Proofs.Qxb6615877a
