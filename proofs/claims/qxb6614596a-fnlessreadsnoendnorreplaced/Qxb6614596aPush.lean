/-
  ZZappendPiece, walked.
-/
import Derived.Test.Qxb6614596aBuilt
namespace Go.Proofs.Qxb6614596a
open Go.RowKit
set_option linter.unusedVariables false

theorem info55 : (Try.prog.info? 55).map (fun i => (i.zero, i.size, i.bytes)) = some (some (.slice none 0 0), 1, 24) := by kernel_rfl
theorem info57 : (Try.prog.info? 57).map (fun i => (i.zero, i.size, i.bytes)) = some (some (.agg #[.float .f64 0, .float .f64 0, .int .i64 0, .int .i64 0, .int .u8 0, .int .u8 0, .int .u8 0, .bool false]), 8, 40) := by kernel_rfl

theorem cells_one (p : PC) : ∀ u ∈ p.cells, u.oneCell' = true := by
  intro u hu
  simp only [PC.cells, List.mem_cons, List.not_mem_nil, or_false] at hu
  rcases hu with rfl | rfl | rfl | rfl | rfl | rfl | rfl | rfl <;> rfl

/-- The new cells of 'append(p[last], piece{..})'. -/
theorem new_piece (w : World) (p : PC) : ∀ j u, p.cells[j]? = some u → (w.alloc (.cells #[.float .f64 p.it, .float .f64 p.pt, .int .i64 p.st, .int .i64 p.en, .int .u8 p.li, .int .u8 p.fi, .int .u8 p.su, .bool p.re] 57)).cell? ((⟨w.heap.size, 0, none⟩ : Addr).add j) = some u := by
  intro j u hu
  rw [Addr.add_lit, Nat.zero_add]
  have h := heap_alloc_new w (.cells #[.float .f64 p.it, .float .f64 p.pt, .int .i64 p.st, .int .i64 p.en, .int .u8 p.li, .int .u8 p.fi, .int .u8 p.su, .bool p.re] 57)
  simp only [World.cell?]
  rw [h, ← hu]
  simp [PC.cells]

set_option maxRecDepth 100000 in
set_option maxHeartbeats 1600000 in
/-- There is room in the last block. -/
theorem push_room (B : Nat) (v : Value) (k q : Nat) (F : Nat → PC) (p : PC) (hp : F k = p) (hk : 1024 * q < k) (hk2 : k < 1024 * q + 1024) (hq : q ≤ 65536) (w : World) (hBw : B ≤ w.heap.size) (h : BuiltN B w v k (q + 1) F) :
    Calls Try.prog 16 #[v, .float .f64 p.it, .float .f64 p.pt, .int .i64 p.st, .int .i64 p.en, .int .u8 p.li, .int .u8 p.fi, .int .u8 p.su, .bool p.re] w fun e w' => ∃ v', e = .returned v' ∧ BuiltN B w' v' (k + 1) (q + 1) F ∧ Below B w w' := by
  obtain ⟨i0, hi, hz0, hz1, hz2⟩ := info_parts info57
  obtain ⟨g, cap, hb, rfl, hBg, hBh, hap, hcell, hfree, hown, hfin⟩ := h.last (by omega) hk2
  obtain ⟨r, hr⟩ : ∃ r, r = k - 1024 * q := ⟨_, rfl⟩
  rw [← hr] at hcell hown hfin
  unfold inn at hcell hown hfin
  have hr1 : r < 1024 := by omega
  have hr0 : ((r : Int) == 1024) = false := by simp; omega
  have HF := Lib.hid hfin
  have HO := Lib.hid hown
  clear hfin hown h hr
  go_enter Try.func16, Try.ntmps16
  go_wp2_with (first
    | (at_builtin; refine wpList_append_fits _ rfl (.tmp 45) (.tmp 55) 55 rfl B 57 i0 8 Try.underlying55 hi hz1 hb r 1024 _ rfl (HO.out.alloc _) ⟨w.heap.size, 0, none⟩ 1 1 p.cells rfl rfl (new_piece w p) (cells_one p) (by omega) ?_; intro w2 hown2 hgrow2; refine Hid.out ?_))
  rw [← hp] at hown2
  obtain ⟨hc2, hf2, hN⟩ := HF.out _ w2 hgrow2 hown2
  have hB2 := ((Below.refl B w).alloc hBw _).grown hgrow2 (Nat.le_trans hBw (by simp)) (fun j h => by cases h; exact hBh)
  have HN := Lib.hid hN
  have HB := Lib.hid hB2
  clear HF HO hcell hfree hown2 hgrow2 hN hB2 hp
  refine Lib.hid ?_
  go_wp2
  go_ret
  exact ⟨_, rfl, HN.out, HB.out.setCell hBg _⟩

/-- A new, empty block behind the others. -/
theorem BuiltN.more {B : Nat} {w : World} {v : Value} {q : Nat} {F : Nat → PC} (h : BuiltN B w v (1024 * q) q F) :
    ∃ xs, w.ownsRow B 55 1 v q xs ∧ (0 < q → ∃ g cap hb, v = .slice (some ⟨g, 0, none⟩) q cap ∧ w.cell? ⟨g, q - 1, none⟩ = some (inn hb 1024)) ∧
      ∀ (w1 w3 : World) (v' : Value) (o : Obj), w.grownBy w1 none → w1.ownsRow B 57 8 (inn w.heap.size 0) 0 [] → (w1.alloc o).grownBy w3 v.ownBlock → w3.ownsRow B 55 1 v' (q + 1) (xs ++ [inn w.heap.size 0]) → BuiltN B w3 v' (1024 * q) (q + 1) F := by
  obtain ⟨hs, h1, h2, h3⟩ := h
  have hlt : ∀ t, t < q → hs t < w.heap.size := by
    intro t ht
    exact ((h2 t ht).lt (hs t) rfl).2
  have hvb : ∀ b, v.ownBlock = some b → b < w.heap.size ∧ ∀ t, t < q → hs t ≠ b := by
    intro b hb
    refine ⟨(h1.lt b hb).2, fun t ht e => ?_⟩
    rcases h1.2 with ⟨rfl, _⟩ | ⟨g, cap, cur, rfl, _⟩
    · simp [Value.ownBlock] at hb
    · simp only [Value.ownBlock, Option.some.injEq] at hb
      exact own_apart h1 (h2 t ht) (hb.trans e.symm)
  refine ⟨_, h1, ?_, ?_⟩
  · intro hq
    rcases h1.2 with ⟨_, h0⟩ | ⟨g, cap, cur, hv, _⟩
    · omega
    · have h1' := h1
      rw [hv] at h1'
      refine ⟨g, cap, hs (q - 1), hv, ?_⟩
      rw [h1'.cellAt (q - 1) (by omega), outer_at hs _ _ _ (by omega), show lenk (1024 * q) (q - 1) = 1024 by unfold lenk; omega]
  · intro w1 w3 v' o g1 o1 g3 o3
    have kept3 : ∀ {e s n b m c} {xs : List Value}, w1.ownsRow B e s (.slice (some ⟨b, 0, none⟩) m c) n xs → (∀ b', v.ownBlock = some b' → b ≠ b') → w3.ownsRow B e s (.slice (some ⟨b, 0, none⟩) m c) n xs := by
      intro e s n b m c xs hx hne
      refine (hx.alloc o).kept g3 (.inr ?_)
      intro e4
      exact hne b e4.symm rfl
    refine ⟨fun t => if t = q then w.heap.size else hs t, ?_, ?_, ?_⟩
    · have e : outer (fun t => if t = q then w.heap.size else hs t) (1024 * q) (q + 1) = outer hs (1024 * q) q ++ [inn w.heap.size 0] := by
        simp only [outer]
        rw [outer_congr _ hs (1024 * q) (1024 * q) q (fun t ht => ⟨by rw [if_neg (by omega)], rfl⟩), show lenk (1024 * q) q = 0 by unfold lenk; omega]
        simp
      rw [e]
      exact o3
    · intro t ht
      by_cases e : t = q
      · subst e
        simp only [if_true]
        rw [show lenk (1024 * t) t = 0 by unfold lenk; omega]
        exact kept3 o1 (fun b' hb' e2 => by have := (hvb b' hb').1; omega)
      · simp only [e, if_false]
        have hk := (h2 t (by omega)).kept g1 (.inr (by simp [inn, Value.ownBlock]))
        exact kept3 hk (fun b' hb' e2 => (hvb b' hb').2 t (by omega) e2)
    · intro t u ht hu e
      by_cases e1 : t = q
      · by_cases e2 : u = q
        · omega
        · simp only [e1, e2, if_true, if_false] at e
          have := hlt u (by omega)
          omega
      · by_cases e2 : u = q
        · simp only [e1, e2, if_true, if_false] at e
          have := hlt t (by omega)
          omega
        · simp only [e1, e2, if_false] at e
          exact h3 t u (by omega) (by omega) e

set_option maxRecDepth 100000 in
set_option maxHeartbeats 1600000 in
/-- No room: a new block is made first. -/
theorem push_new (B : Nat) (v : Value) (q : Nat) (F : Nat → PC) (p : PC) (hp : F (1024 * q) = p) (hq : q ≤ 65536) (w : World) (hBw : B ≤ w.heap.size) (h : BuiltN B w v (1024 * q) q F) :
    Calls Try.prog 16 #[v, .float .f64 p.it, .float .f64 p.pt, .int .i64 p.st, .int .i64 p.en, .int .u8 p.li, .int .u8 p.fi, .int .u8 p.su, .bool p.re] w fun e w' => ∃ v', e = .returned v' ∧ BuiltN B w' v' (1024 * q + 1) (q + 1) F ∧ Below B w w' := by
  obtain ⟨i0, hi, hz0, hz1, hz2⟩ := info_parts info57
  obtain ⟨i1, hi', hz0', hz1', hz2'⟩ := info_parts info55
  obtain ⟨xs, hownO, hlast, hmore⟩ := h.more
  have HO := Lib.hid hownO
  have HM := Lib.hid hmore
  clear hmore h
  have hshape : (∃ a cap, v = .slice a 0 cap ∧ q = 0) ∨ ∃ g cap hb, v = .slice (some ⟨g, 0, none⟩) q cap ∧ 0 < q ∧ w.cell? ⟨g, q - 1, none⟩ = some (.slice (some ⟨hb, 0, none⟩) 1024 1024) := by
    by_cases hq0 : q = 0
    · rcases hownO.2 with ⟨e, _⟩ | ⟨g, cap, cur, e, _⟩
      · exact .inl ⟨none, 0, e, hq0⟩
      · exact .inl ⟨some ⟨g, 0, none⟩, cap, by rw [e, hq0], hq0⟩
    · obtain ⟨g, cap, hb, e, hc⟩ := hlast (by omega)
      exact .inr ⟨g, cap, hb, e, by omega, hc⟩
  clear hlast hownO
  rcases hshape with ⟨a, cap, rfl, rfl⟩ | ⟨g, cap, hb, rfl, hq0, hc⟩
  · go_enter Try.func16, Try.ntmps16
    go_wp2_with (first
      | (at_make; refine wpList_make_own _ rfl (.const (.int .i64 0)) (.const (.int .i64 1024)) 55 rfl B 57 i0 (.agg #[.float .f64 0, .float .f64 0, .int .i64 0, .int .i64 0, .int .u8 0, .int .u8 0, .int .u8 0, .bool false]) 8 Try.underlying55 hi hz0 hz1 _ _ _ 1024 rfl rfl (by omega) (by rw [hz2]; omega) (by unfold maxLen; omega) hBw ?_; intro w1 hown1 hgrow1; refine Hid.out ?_))
    have ho1 := HO.out.kept hgrow1 (by cases hv : Value.ownBlock _ <;> simp)
    have hs1 := hgrow1.size
    have HG1 := Lib.hid hgrow1
    have HW1 := Lib.hid hown1
    clear hgrow1 hown1
    refine Lib.hid ?_
    go_wp2_with (first
      | (at_builtin; refine wpList_append_own _ rfl (.tmp 33) (.tmp 35) 36 rfl B 55 i1 (.slice none 0 0) 1 24 Try.underlying36 hi' hz0' hz1' hz2' rfl (by decide) _ 0 _ rfl (ho1.alloc _) ⟨w1.heap.size, 0, none⟩ 1 1 [inn w.heap.size 0] rfl rfl (cell_one_new _ _ _) (by intro u hu; simp at hu; subst hu; rfl) (by unfold maxLen; omega) (by omega) (by simp; omega) ?_; intro v3 w3 hown3 hgrow3 _; refine Hid.out ?_))
    have hN3 := HM.out w1 w3 v3 _ HG1.out HW1.out hgrow3 hown3
    have hb1 := (Below.refl B w).grown HG1.out hBw (fun j h => by cases h)
    have hb3 := (hb1.alloc (Nat.le_trans hBw hs1) _).grown hgrow3 (Nat.le_trans (Nat.le_trans hBw hs1) (by simp)) (fun j h => (HO.out.lt j h).1)
    obtain ⟨g4, cap4, hb4, hv3, hBg, hBh, hap, hcell, hfree, hown, hfin⟩ := hN3.last (Nat.le_refl _) (by omega)
    rw [Nat.sub_self] at hcell hown hfin
    unfold inn at hcell hown hfin
    rw [hv3] at hfin ⊢
    have HF := Lib.hid hfin
    have HO4 := Lib.hid hown
    have HB3 := Lib.hid hb3
    clear hfin hown hN3 hgrow3 hown3 hv3 ho1 HM HO HG1 HW1 hb1 hb3
    refine Lib.hid ?_
    go_wp2_with (first
      | (at_builtin; refine wpList_append_fits _ rfl (.tmp 45) (.tmp 55) 55 rfl B 57 i0 8 Try.underlying55 hi hz1 hb4 0 1024 _ rfl (HO4.out.alloc _) ⟨w3.heap.size, 0, none⟩ 1 1 p.cells rfl rfl (new_piece w3 p) (cells_one p) (by omega) ?_; intro w5 hown5 hgrow5; refine Hid.out ?_))
    rw [← hp] at hown5
    obtain ⟨hc5, hf5, hN5⟩ := HF.out _ w5 hgrow5 hown5
    have hB5 := (HB3.out.alloc (Nat.le_trans hBw HB3.out.size) _).grown hgrow5 (Nat.le_trans (Nat.le_trans hBw HB3.out.size) (by simp)) (fun j h => by cases h; exact hBh)
    have HN := Lib.hid hN5
    have HB := Lib.hid hB5
    clear HF HO4 hcell hfree hown5 hgrow5 hN5 hB5 hp HB3
    refine Lib.hid ?_
    go_wp2
    go_ret
    exact ⟨_, rfl, HN.out, HB.out.setCell hBg _⟩
  · have hq1 : ((q : Int) == 0) = false := by simp; omega
    go_enter Try.func16, Try.ntmps16
    go_wp2_with (first
      | (at_make; refine wpList_make_own _ rfl (.const (.int .i64 0)) (.const (.int .i64 1024)) 55 rfl B 57 i0 (.agg #[.float .f64 0, .float .f64 0, .int .i64 0, .int .i64 0, .int .u8 0, .int .u8 0, .int .u8 0, .bool false]) 8 Try.underlying55 hi hz0 hz1 _ _ _ 1024 rfl rfl (by omega) (by rw [hz2]; omega) (by unfold maxLen; omega) hBw ?_; intro w1 hown1 hgrow1; refine Hid.out ?_))
    have ho1 := HO.out.kept hgrow1 (by cases hv : Value.ownBlock _ <;> simp)
    have hs1 := hgrow1.size
    have HG1 := Lib.hid hgrow1
    have HW1 := Lib.hid hown1
    clear hgrow1 hown1
    refine Lib.hid ?_
    go_wp2_with (first
      | (at_builtin; refine wpList_append_own _ rfl (.tmp 33) (.tmp 35) 36 rfl B 55 i1 (.slice none 0 0) 1 24 Try.underlying36 hi' hz0' hz1' hz2' rfl (by decide) _ q _ rfl (ho1.alloc _) ⟨w1.heap.size, 0, none⟩ 1 1 [inn w.heap.size 0] rfl rfl (cell_one_new _ _ _) (by intro u hu; simp at hu; subst hu; rfl) (by unfold maxLen; omega) (by omega) (by simp; omega) ?_; intro v3 w3 hown3 hgrow3 _; refine Hid.out ?_))
    have hN3 := HM.out w1 w3 v3 _ HG1.out HW1.out hgrow3 hown3
    have hb1 := (Below.refl B w).grown HG1.out hBw (fun j h => by cases h)
    have hb3 := (hb1.alloc (Nat.le_trans hBw hs1) _).grown hgrow3 (Nat.le_trans (Nat.le_trans hBw hs1) (by simp)) (fun j h => (HO.out.lt j h).1)
    obtain ⟨g4, cap4, hb4, hv3, hBg, hBh, hap, hcell, hfree, hown, hfin⟩ := hN3.last (Nat.le_refl _) (by omega)
    rw [Nat.sub_self] at hcell hown hfin
    unfold inn at hcell hown hfin
    rw [hv3] at hfin ⊢
    have HF := Lib.hid hfin
    have HO4 := Lib.hid hown
    have HB3 := Lib.hid hb3
    clear hfin hown hN3 hgrow3 hown3 hv3 ho1 HM HO HG1 HW1 hb1 hb3
    refine Lib.hid ?_
    go_wp2_with (first
      | (at_builtin; refine wpList_append_fits _ rfl (.tmp 45) (.tmp 55) 55 rfl B 57 i0 8 Try.underlying55 hi hz1 hb4 0 1024 _ rfl (HO4.out.alloc _) ⟨w3.heap.size, 0, none⟩ 1 1 p.cells rfl rfl (new_piece w3 p) (cells_one p) (by omega) ?_; intro w5 hown5 hgrow5; refine Hid.out ?_))
    rw [← hp] at hown5
    obtain ⟨hc5, hf5, hN5⟩ := HF.out _ w5 hgrow5 hown5
    have hB5 := (HB3.out.alloc (Nat.le_trans hBw HB3.out.size) _).grown hgrow5 (Nat.le_trans (Nat.le_trans hBw HB3.out.size) (by simp)) (fun j h => by cases h; exact hBh)
    have HN := Lib.hid hN5
    have HB := Lib.hid hB5
    clear HF HO4 hcell hfree hown5 hgrow5 hN5 hB5 hp HB3
    refine Lib.hid ?_
    go_wp2
    go_ret
    exact ⟨_, rfl, HN.out, HB.out.setCell hBg _⟩

/-- ZZappendPiece: one piece more. -/
theorem push (B : Nat) (v : Value) (k : Nat) (F : Nat → PC) (hk : k ≤ 65536) (w : World) (hBw : B ≤ w.heap.size) (h : Built B w v k F) :
    Calls Try.prog 16 #[v, .float .f64 (F k).it, .float .f64 (F k).pt, .int .i64 (F k).st, .int .i64 (F k).en, .int .u8 (F k).li, .int .u8 (F k).fi, .int .u8 (F k).su, .bool (F k).re] w fun e w' => ∃ v', e = .returned v' ∧ Built B w' v' (k + 1) F ∧ Below B w w' := by
  by_cases hm : k % 1024 = 0
  · obtain ⟨q, rfl⟩ : ∃ q, k = 1024 * q := ⟨k / 1024, by omega⟩
    have hn : nbk (1024 * q) = q := by unfold nbk; omega
    have hn1 : nbk (1024 * q + 1) = q + 1 := by unfold nbk; omega
    have h' : BuiltN B w v (1024 * q) q F := by unfold Built at h; rw [hn] at h; exact h
    refine (push_new B v q F _ rfl (by omega) w hBw h').mono ?_
    rintro e w' ⟨v', rfl, hN, hb⟩
    exact ⟨v', rfl, by unfold Built; rw [hn1]; exact hN, hb⟩
  · have hn : nbk k = k / 1024 + 1 := by unfold nbk; omega
    have hn1 : nbk (k + 1) = k / 1024 + 1 := by unfold nbk; omega
    have h' : BuiltN B w v k (k / 1024 + 1) F := by unfold Built at h; rw [hn] at h; exact h
    refine (push_room B v k (k / 1024) F _ rfl (by omega) (by omega) (by omega) w hBw h').mono ?_
    rintro e w' ⟨v', rfl, hN, hb⟩
    exact ⟨v', rfl, by unfold Built; rw [hn1]; exact hN, hb⟩

end Go.Proofs.Qxb6614596a
