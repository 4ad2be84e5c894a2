/-
  pastSize, overlaysSize, ZZoverlaysSize, walked.
-/
import Derived.Test.Qxb6615877aOver
import Derived.Lib.Hide
namespace Go.Proofs.Qxb6615877a
open Go.RowKit

theorem childsize_at (lo hi : Option Addr × Nat × Nat) (h1 : lo.2.1 < 2097152) (h2 : hi.2.1 < 2097152) (w : World) :
    Calls Try.prog 22 #[.agg #[.int .u32 0, .pointer none, .bool false, sv lo, .pointer none, sv hi, .pointer none, .int .i64 0, .int .i64 0]] w fun e w' => e = .returned (.int .i64 (fsz (lo.2.1 : Nat) + fsz (hi.2.1 : Nat) + 20)) ∧ Below w.heap.size w w' :=
  childsize lo.1 hi.1 lo.2.1 lo.2.2 hi.2.1 hi.2.2 h1 h2 w

set_option maxRecDepth 100000 in
theorem past (B n : Nat) (Lo Hi : List (Option Addr × Nat × Nat)) (h1 : Small Lo) (h2 : Small Hi) (hn : n ≤ 131072) (w : World) (hP : Part B n Lo Hi n w) :
    Calls Try.prog 20 #[.slice (some ⟨B, 0, none⟩) n n] w fun e w' => e = .returned (.int .i64 (psum Lo Hi n)) ∧ Below w.heap.size w w' := by
  obtain ⟨ps, hps⟩ : ∃ ps : Nat → Int, ∀ k, ps k = psum Lo Hi k := ⟨_, fun _ => rfl⟩
  obtain ⟨tm, htm⟩ : ∃ tm : Nat → Int, ∀ k, tm k = term Lo Hi k := ⟨_, fun _ => rfl⟩
  have hstep : ∀ k, ps (k + 1) = ps k + tm k := by intro k; rw [hps, hps, htm, psum]
  have hpr : ∀ k, 0 ≤ ps k ∧ ps k ≤ 8388628 * (k : Int) := by intro k; rw [hps]; exact psum_range h1 h2 k
  have htr : ∀ k, 0 ≤ tm k ∧ tm k ≤ 8388628 := by intro k; rw [htm]; exact term_range h1 h2 k
  have hp0 : ps 0 = 0 := by rw [hps]; rfl
  have kc : ∀ k w, Calls Try.prog 22 #[.agg #[.int .u32 0, .pointer none, .bool false, sv (Lo.getD k d0), .pointer none, sv (Hi.getD k d0), .pointer none, .int .i64 0, .int .i64 0]] w fun e w' => e = .returned (.int .i64 (tm k)) ∧ Below w.heap.size w w' := by
    intro k w
    rw [htm]
    exact childsize_at _ _ (h1 k) (h2 k) w
  rw [← hps]
  have HP := Lib.hid hP
  have HS := Lib.hid hstep
  have HR := Lib.hid hpr
  have HT := Lib.hid htr
  have H0 := Lib.hid hp0
  have HK := Lib.hid kc
  clear hP hstep hpr htr hp0 kc hps htm h1 h2
  go_enter Try.func20, Try.ntmps20
  go_wp2
  go_loopw [3, 8] (fun s i wr => ∃ k : Nat, k ≤ n ∧ i = .int .i64 (k : Int) ∧ s = .int .i64 (ps k) ∧ Below w.heap.size w wr) (fun _ i _ => n - (intOf i).toNat)
  case atStart => exact ⟨0, Nat.zero_le _, rfl, by rw [H0.out], Below.refl _ _⟩
  case round =>
    obtain ⟨k, hk, rfl, rfl, hB⟩ := hrel
    by_cases hkl : k < n
    · have hc := fun i hi => (HP.out.on hB).cell k i hkl hi
      simp only [hkl, if_true] at hc
      obtain ⟨la, ll, lc, hlo⟩ : ∃ a l c, .slice a l c = sv (Lo.getD k d0) := ⟨_, _, _, rfl⟩
      obtain ⟨ha, hl, hcp, hhi⟩ : ∃ a l c, .slice a l c = sv (Hi.getD k d0) := ⟨_, _, _, rfl⟩
      have kk := HK.out k
      rw [← hlo, ← hhi] at hc kk
      have c0 : wr.cell? ⟨B, k * 9, none⟩ = some (.int .u32 0) := hc 0 (by omega)
      have c1 : wr.cell? ⟨B, k * 9 + 1, none⟩ = some (.pointer none) := hc 1 (by omega)
      have c2 : wr.cell? ⟨B, k * 9 + 2, none⟩ = some (.bool false) := hc 2 (by omega)
      have c3 : wr.cell? ⟨B, k * 9 + 3, none⟩ = some (.slice la ll lc) := hc 3 (by omega)
      have c4 : wr.cell? ⟨B, k * 9 + 4, none⟩ = some (.pointer none) := hc 4 (by omega)
      have c5 : wr.cell? ⟨B, k * 9 + 5, none⟩ = some (.slice ha hl hcp) := hc 5 (by omega)
      have c6 : wr.cell? ⟨B, k * 9 + 6, none⟩ = some (.pointer none) := hc 6 (by omega)
      have c7 : wr.cell? ⟨B, k * 9 + 7, none⟩ = some (.int .i64 0) := hc 7 (by omega)
      have c8 : wr.cell? ⟨B, k * 9 + 8, none⟩ = some (.int .i64 0) := hc 8 (by omega)
      have KK := Lib.hid kk
      obtain ⟨r1, r2⟩ := HR.out k
      obtain ⟨t1, t2⟩ := HT.out k
      clear hc kk hlo hhi
      go_wp2_with (go_at_call 22; refine (KK.out _).mono ?_; rintro e w2 ⟨rfl, hb2⟩)
      have hB2 := (hB.alloc hB.size _).trans (hb2.mono (Nat.le_trans hB.size (by simp)))
      go_roundw
      case rel => exact ⟨k + 1, hkl, by go_num, by rw [HS.out], hB2⟩
      case measure => simp [intOf]; omega
    · obtain rfl : k = n := by omega
      go_wp2
      go_ret
      exact ⟨rfl, hB⟩

/-- What n overlays take. -/
def osz (Lo Hi : List (Option Addr × Nat × Nat)) (n : Nat) : Int := if n = 0 then 0 else 2 + psum Lo Hi n

theorem osize (B n : Nat) (Lo Hi : List (Option Addr × Nat × Nat)) (h1 : Small Lo) (h2 : Small Hi) (hn : n ≤ 131072) (w : World) (hP : Part B n Lo Hi n w) :
    Calls Try.prog 18 #[.slice (some ⟨B, 0, none⟩) n n] w fun e w' => e = .returned (.int .i64 (osz Lo Hi n)) ∧ Below w.heap.size w w' := by
  by_cases h0 : n = 0
  · subst h0
    have e : osz Lo Hi 0 = 0 := rfl
    rw [e]
    clear hP h1 h2
    go_enter Try.func18, Try.ntmps18
    go_wp2
    go_ret
    exact ⟨rfl, Below.refl _ _⟩
  · have e : osz Lo Hi n = 2 + psum Lo Hi n := by unfold osz; rw [if_neg h0]
    have kp := past B n Lo Hi h1 h2 hn w hP
    have hr := psum_range h1 h2 n
    rw [e]
    generalize psum Lo Hi n = s at kp hr ⊢
    obtain ⟨r1, r2⟩ := hr
    have hn0 : ((n : Int) == 0) = false := by simpa using h0
    have KP := Lib.hid kp
    clear kp hP h1 h2 e h0
    go_enter Try.func18, Try.ntmps18
    go_wp2_with (go_at_call 20; refine KP.out.mono ?_; rintro e w2 ⟨rfl, hb2⟩)
    go_ret
    exact ⟨rfl, hb2⟩

/-- What a walk is told of a [][]byte: its first 'len' cells hold the slices L. -/
def Holds2 (w : World) (a : Option Addr) (len cap : Nat) (L : List (Option Addr × Nat × Nat)) : Prop :=
  L.length = len ∧ len ≤ cap ∧ (a = none → len = 0 ∧ cap = 0) ∧ ∀ x, a = some x → ∀ j, j < len → w.cell? (x.add j) = some (sv (L.getD j d0))

theorem Holds2.on {w w' : World} {a : Option Addr} {len cap : Nat} {L : List (Option Addr × Nat × Nat)} (h : Holds2 w a len cap L) (hb : Below w.heap.size w w') : Holds2 w' a len cap L := by
  obtain ⟨h1, h2, h3, h4⟩ := h
  refine ⟨h1, h2, h3, fun x hx j hj => ?_⟩
  have hc := h4 x hx j hj
  rw [hb.cell (block_lt_of_cell hc)]
  exact hc

set_option maxRecDepth 100000 in
set_option maxHeartbeats 800000 in
/-- ZZoverlaysSize, neither slice nil. -/
theorem zzover_some (x y : Addr) (n ca cb : Nat) (Lo Hi : List (Option Addr × Nat × Nat)) (h1 : Small Lo) (h2 : Small Hi) (hn : n ≤ 131072) (w : World)
    (hx : Holds2 w (some x) n ca Lo) (hy : Holds2 w (some y) n cb Hi) :
    Calls Try.prog 13 #[.slice (some x) n ca, .slice (some y) n cb] w fun e w' => e = .returned (.int .i64 (osz Lo Hi n)) ∧ Below w.heap.size w w' := by
  obtain ⟨M, hmk, hM⟩ := make_over n hn Lo Hi
  have ko : ∀ W, Part w.heap.size n Lo Hi n W → Calls Try.prog 18 #[.slice (some ⟨w.heap.size, 0, none⟩) n n] W fun e w' => e = .returned (.int .i64 (osz Lo Hi n)) ∧ Below W.heap.size W w' := fun W hW => osize w.heap.size n Lo Hi h1 h2 hn W hW
  generalize osz Lo Hi n = s at ko ⊢
  have HM := Lib.hid hM
  have KO := Lib.hid ko
  have HX := Lib.hid hx
  have HY := Lib.hid hy
  clear hM ko h1 h2 hx hy
  go_enter Try.func13, Try.ntmps13
  go_wp2
  go_loopw [12] (fun i wr => ∃ k : Nat, k ≤ n ∧ i = .int .i64 (k : Int) ∧ Part w.heap.size n Lo Hi k wr ∧ Below w.heap.size w wr) (fun i _ => n - (intOf i).toNat)
  case atStart => exact ⟨0, Nat.zero_le _, rfl, HM.out w, (Below.refl _ _).alloc (Nat.le_refl _) _⟩
  case round =>
    clear hmk
    obtain ⟨k, hk, rfl, hP, hB⟩ := hrel
    by_cases hkl : k < n
    · have hc := fun i hi => hP.cell k i hkl hi
      simp only [show ¬ k < k by omega, if_false] at hc
      have lx := HX.out.2.2.2 x rfl k hkl
      have ly := HY.out.2.2.2 y rfl k hkl
      have bx := block_lt_of_cell lx
      have by' := block_lt_of_cell ly
      rw [← hB.cell bx] at lx
      rw [← hB.cell by'] at ly
      have hst := hP.step hkl
      obtain ⟨la, ll, lc, hlo⟩ : ∃ a l c, .slice a l c = sv (Lo.getD k d0) := ⟨_, _, _, rfl⟩
      obtain ⟨ha, hl, hcp, hhi⟩ : ∃ a l c, .slice a l c = sv (Hi.getD k d0) := ⟨_, _, _, rfl⟩
      rw [← hlo] at lx hst
      rw [← hhi] at ly hst
      have ny : ∀ (o : Nat) v (W : World), (W.setCell ⟨w.heap.size, o, none⟩ v).cell? (y.add k) = W.cell? (y.add k) := fun o v W => World.cell?_setCell_other _ _ _ _ (by
        intro e
        have := congrArg Addr.block e
        simp only at this
        omega)
      have ly2 : ((wr.setCell ⟨w.heap.size, k * 9 + 3, none⟩ (.slice la ll lc)).setCell ⟨w.heap.size, k * 9 + 3 + 1, none⟩ (.pointer none)).cell? (y.add k) = some (.slice ha hl hcp) := by rw [ny, ny]; exact ly
      have c3 : wr.cell? ⟨w.heap.size, k * 9 + 3, none⟩ = some (.slice none 0 0) := hc 3 (by omega)
      have c4 : wr.cell? ⟨w.heap.size, k * 9 + 3 + 1, none⟩ = some (.pointer none) := hc 4 (by omega)
      have c5 : wr.cell? ⟨w.heap.size, k * 9 + 5, none⟩ = some (.slice none 0 0) := hc 5 (by omega)
      have c6 : wr.cell? ⟨w.heap.size, k * 9 + 5 + 1, none⟩ = some (.pointer none) := hc 6 (by omega)
      have f3 := hP.free
      have HST := Lib.hid hst
      have hBB := Lib.hid hB
      clear hc ny hst ly bx by' hlo hhi hP hB
      go_wp2
      go_roundw
      case rel => exact ⟨k + 1, hkl, by go_num, HST.out, (((hBB.out.setCell (Nat.le_refl _) _).setCell (Nat.le_refl _) _).setCell (Nat.le_refl _) _).setCell (Nat.le_refl _) _⟩
      case measure => simp [intOf]; omega
    · obtain rfl : k = n := by omega
      have KO2 := Lib.hid (KO.out wr hP)
      have hB0 := hB.size
      clear hP
      go_wp2_with (go_at_call 18; refine KO2.out.mono ?_; rintro e w2 ⟨rfl, hb2⟩)
      go_ret
      exact ⟨rfl, hB.trans (hb2.mono hB0)⟩

set_option maxRecDepth 100000 in
/-- ZZoverlaysSize of no overlays. -/
theorem zzover_none (a b : Option Addr) (ca cb : Nat) (Lo Hi : List (Option Addr × Nat × Nat)) (w : World) :
    Calls Try.prog 13 #[.slice a 0 ca, .slice b 0 cb] w fun e w' => e = .returned (.int .i64 (osz Lo Hi 0)) ∧ Below w.heap.size w w' := by
  obtain ⟨M, hmk, hM⟩ := make_over 0 (by omega) [] []
  have h0 : Small [] := fun j => by simp [d0]
  have ko : ∀ W, Part w.heap.size 0 [] [] 0 W → Calls Try.prog 18 #[.slice (some ⟨w.heap.size, 0, none⟩) 0 0] W fun e w' => e = .returned (.int .i64 0) ∧ Below W.heap.size W w' := fun W hW => osize w.heap.size 0 [] [] h0 h0 (by omega) W hW
  have e : osz Lo Hi 0 = 0 := rfl
  rw [e]
  have KO := Lib.hid (ko _ (hM w))
  clear hM ko h0 e
  have hmk0 : ∀ W : World, (Instr.makeSlice 40 (.int .i64 0) (.int .i64 0)).run Try.prog W = .ok (.slice (some ⟨W.heap.size, 0, none⟩) 0 0) (W.alloc (.cells M 51)) := hmk
  clear hmk
  go_enter Try.func13, Try.ntmps13
  go_wp2
  refine wp_loop_rounds 1 ?_
  rw [rounds_succ]
  go_wp2_with (go_at_call 18; refine KO.out.mono ?_; rintro e w2 ⟨rfl, hb2⟩)
  go_ret
  exact ⟨rfl, ((Below.refl _ _).alloc (Nat.le_refl _) _).trans (hb2.mono (by simp))⟩

/-- ZZoverlaysSize, nil or not. -/
theorem zzover (a b : Option Addr) (n ca cb : Nat) (Lo Hi : List (Option Addr × Nat × Nat)) (h1 : Small Lo) (h2 : Small Hi) (hn : n ≤ 131072) (w : World)
    (hx : Holds2 w a n ca Lo) (hy : Holds2 w b n cb Hi) :
    Calls Try.prog 13 #[.slice a n ca, .slice b n cb] w fun e w' => e = .returned (.int .i64 (osz Lo Hi n)) ∧ Below w.heap.size w w' := by
  by_cases h0 : n = 0
  · subst h0
    exact zzover_none a b ca cb Lo Hi w
  · cases a with
    | none => exact absurd (hx.2.2.1 rfl).1 h0
    | some x => cases b with
      | none => exact absurd (hy.2.2.1 rfl).1 h0
      | some y => exact zzover_some x y n ca cb Lo Hi h1 h2 hn w hx hy
end Go.Proofs.Qxb6615877a
