/-
  The law, walked at an index pair within.
-/
import Derived.Test.Qxb6614596aOther
import Derived.Test.Qxb6614596aPlace
namespace Go.Proofs.Qxb6614596a
open Go.RowKit
set_option linter.unusedVariables false
attribute [local go_sem] run_store_float

theorem turn_cells (g : PC) : g.turn.cells = [.float .f64 g.it, .float .f64 g.pt, .int .i64 g.st, .int .i64 (bits .xor .i64 (if IntKind.i64.signed = true then -1 else 9223372036854775807) g.en), .int .u8 g.li, .int .u8 g.fi, .int .u8 g.su, .bool !g.re] := by
  rw [if_pos (show IntKind.i64.signed = true from rfl)]
  rfl

set_option maxRecDepth 100000 in
set_option maxHeartbeats 3200000 in
theorem main (b o n cap I J : Nat) (G : Nat → PC) (hn : n ≤ 16384) (hcap : n ≤ cap) (hI : I < n) (hJ : J < n) (w : World) (hb : b < w.heap.size) (h : Src w b o n G) (hu : ∀ i, i < n → (0 ≤ (G i).li ∧ (G i).li ≤ 255) ∧ (0 ≤ (G i).fi ∧ (G i).fi ≤ 255) ∧ (0 ≤ (G i).su ∧ (G i).su ≤ 255)) :
    Calls Try.prog 5 #[.slice (some ⟨b, o, none⟩) n cap, .int .i64 (I : Int), .int .i64 (J : Int)] w fun e w' => e = .returned (.bool true) ∧ Below w.heap.size w w' := by
  have HS := Lib.hid h
  obtain ⟨xl, xf, xs⟩ := hu I hI
  obtain ⟨yl, yf, ys⟩ := hu J hJ
  have HPL := Lib.hid (fun W => place (G I).it (G I).pt (G J).it (G J).pt (G I).st (G I).en (G I).li (G I).fi (G I).su (G J).st (G J).en (G J).li (G J).fi (G J).su (G I).re (G J).re W xl xf xs yl yf ys)
  clear h hu xl xf xs yl yf ys
  have K10 := Lib.hid (zz10 (some ⟨b, o, none⟩) n cap (I : Int) (J : Int) (by omega) w)
  obtain ⟨M, hmk, hO⟩ := make34 n hn G
  have HO := Lib.hid (hO w)
  clear hO
  go_enter Try.func5, Try.ntmps5
  go_wp2_with (go_at_call 10; refine K10.out.mono ?_; rintro e w' ⟨rfl, rfl⟩)
  go_loopw [8] (fun m wr => ∃ k : Nat, k ≤ n ∧ m = .int .i64 (k : Int) ∧ Oth w.heap.size n G k wr ∧ Below w.heap.size w wr) (fun m _ => n - (intOf m).toNat)
  case atStart => exact ⟨0, Nat.zero_le _, rfl, HO.out, (Below.refl _ _).alloc (Nat.le_refl _) _⟩
  case round =>
    obtain ⟨k, hk, rfl, hBu, hB⟩ := hrel
    by_cases hkl : k < n
    · have hS := HS.out.on hB hb
      have c0 : wr.cell? ⟨b, o + k * 8, none⟩ = some (.float .f64 (G k).it) := hS k 0 hkl (by omega)
      have c1 : wr.cell? ⟨b, o + k * 8 + 1, none⟩ = some (.float .f64 (G k).pt) := hS k 1 hkl (by omega)
      have c2 : wr.cell? ⟨b, o + k * 8 + 2, none⟩ = some (.int .i64 (G k).st) := hS k 2 hkl (by omega)
      have c3 : wr.cell? ⟨b, o + k * 8 + 3, none⟩ = some (.int .i64 (G k).en) := hS k 3 hkl (by omega)
      have c4 : wr.cell? ⟨b, o + k * 8 + 4, none⟩ = some (.int .u8 (G k).li) := hS k 4 hkl (by omega)
      have c5 : wr.cell? ⟨b, o + k * 8 + 5, none⟩ = some (.int .u8 (G k).fi) := hS k 5 hkl (by omega)
      have c6 : wr.cell? ⟨b, o + k * 8 + 6, none⟩ = some (.int .u8 (G k).su) := hS k 6 hkl (by omega)
      have c7 : wr.cell? ⟨b, o + k * 8 + 7, none⟩ = some (.bool (G k).re) := hS k 7 hkl (by omega)
      obtain ⟨t0, d0⟩ := hBu.there (k * 8) (by omega)
      obtain ⟨t1, d1⟩ := hBu.there (k * 8 + 1) (by omega)
      obtain ⟨t2, d2⟩ := hBu.there (k * 8 + 2) (by omega)
      obtain ⟨t3, d3⟩ := hBu.there (k * 8 + 3) (by omega)
      obtain ⟨t4, d4⟩ := hBu.there (k * 8 + 4) (by omega)
      obtain ⟨t5, d5⟩ := hBu.there (k * 8 + 5) (by omega)
      obtain ⟨t6, d6⟩ := hBu.there (k * 8 + 6) (by omega)
      obtain ⟨t7, d7⟩ := hBu.there (k * 8 + 7) (by omega)
      have f0 := hBu.free (k * 8)
      have f1 := hBu.free (k * 8 + 1)
      have f2 := hBu.free (k * 8 + 2)
      have f3 := hBu.free (k * 8 + 3)
      have f4 := hBu.free (k * 8 + 4)
      have f5 := hBu.free (k * 8 + 5)
      have f6 := hBu.free (k * 8 + 6)
      have f7 := hBu.free (k * 8 + 7)
      have hlt := hBu.lt
      have HST := Lib.hid (hBu.step hkl)
      have HB := Lib.hid hB
      clear hS hBu hB HS HO hmk
      go_wp2_with fail
      refine ⟨⟨k + 1, hkl, by go_num, (HST.out _ _ _ _ _ _ _ _ (turn_cells _)).alloc _, ?_⟩, ?_⟩
      · have z := HB.out.size
        exact Below.alloc (((((((((HB.out.setCell (Nat.le_refl _) _).setCell (Nat.le_refl _) _).setCell (Nat.le_refl _) _).setCell (Nat.le_refl _) _).setCell (Nat.le_refl _) _).setCell (Nat.le_refl _) _).setCell (Nat.le_refl _) _).setCell (Nat.le_refl _) _)) (by simpa using z) _
      · simp [intOf]; omega
    · obtain rfl : k = n := by omega
      have HB := Lib.hid hB
      have hlt := hBu.lt
      have hbr : b < wr.heap.size := by omega
      have HS2 := Lib.hid hBu.src
      have hS1 := HS.out.on hB hb
      clear hBu hB HO hmk hkl
      go_wp2_with fail
      refine (build b o k cap G hn hcap wr hbr hS1).mono ?_
      rintro e w1 ⟨v1, rfl, hbu1, hb1⟩
      have HU1 := Lib.hid hbu1
      have HB1 := Lib.hid hb1
      clear hbu1 hb1 hS1
      go_wp2_with fail
      refine (build w.heap.size 0 k k _ hn (Nat.le_refl _) w1 (Nat.lt_of_lt_of_le hlt HB1.out.size) (HS2.out.on HB1.out hlt)).mono ?_
      rintro e w2 ⟨v2, rfl, hbu2, hb2⟩
      have HU2 := Lib.hid hbu2
      have HB2 := Lib.hid hb2
      clear hbu2 hb2
      go_wp2_with fail
      refine (zzless _ v1 k I J G hI hJ hn w2 (HU1.out.on HB2.out)).mono ?_
      rintro e w3 ⟨rfl, hb3⟩
      have HB3 := Lib.hid hb3
      clear hb3
      generalize er1 : decide (cmpP (G I) (G J) < 0) = r1
      go_wp2_with fail
      refine (zzless _ v2 k I J _ hI hJ hn w3 (HU2.out.on HB3.out)).mono ?_
      rintro e w4 ⟨rfl, hb4⟩
      have HB4 := Lib.hid hb4
      clear hb4
      rw [show decide (cmpP ((fun i => (G i).turn) I) ((fun i => (G i).turn) J) < 0) = r1 from er1]
      go_wp2_with fail
      refine (zzless _ v2 k J I _ hJ hI hn w4 ((HU2.out.on HB3.out).on HB4.out)).mono ?_
      rintro e w5 ⟨rfl, hb5⟩
      have q1 := HB.out.trans (HB1.out.mono HB.out.size)
      have q2 := q1.trans (HB2.out.mono q1.size)
      have q3 := q2.trans (HB3.out.mono q2.size)
      have q4 := q3.trans (HB4.out.mono q3.size)
      have q5 := q4.trans (hb5.mono q4.size)
      have q5s := q5.size
      generalize er2 : decide (cmpP ((fun i => (G i).turn) J) ((fun i => (G i).turn) I) < 0) = r2
      have er2' : decide (cmpP (G J) (G I) < 0) = r2 := er2
      have hS0 := HS.out
      have hSp : ∀ W, Below w.heap.size w W → ((fun w' => w'.cell? ⟨b, o + I * 8, none⟩ = some (.float .f64 (G I).it) ∧ w'.cell? ⟨b, o + I * 8 + 1, none⟩ = some (.float .f64 (G I).pt) ∧ w'.cell? ⟨b, o + I * 8 + 2, none⟩ = some (.int .i64 (G I).st) ∧ w'.cell? ⟨b, o + I * 8 + 3, none⟩ = some (.int .i64 (G I).en) ∧ w'.cell? ⟨b, o + I * 8 + 4, none⟩ = some (.int .u8 (G I).li) ∧ w'.cell? ⟨b, o + I * 8 + 5, none⟩ = some (.int .u8 (G I).fi) ∧ w'.cell? ⟨b, o + I * 8 + 6, none⟩ = some (.int .u8 (G I).su) ∧ w'.cell? ⟨b, o + I * 8 + 7, none⟩ = some (.bool (G I).re) ∧ w'.cell? ⟨b, o + J * 8, none⟩ = some (.float .f64 (G J).it) ∧ w'.cell? ⟨b, o + J * 8 + 1, none⟩ = some (.float .f64 (G J).pt) ∧ w'.cell? ⟨b, o + J * 8 + 2, none⟩ = some (.int .i64 (G J).st) ∧ w'.cell? ⟨b, o + J * 8 + 3, none⟩ = some (.int .i64 (G J).en) ∧ w'.cell? ⟨b, o + J * 8 + 4, none⟩ = some (.int .u8 (G J).li) ∧ w'.cell? ⟨b, o + J * 8 + 5, none⟩ = some (.int .u8 (G J).fi) ∧ w'.cell? ⟨b, o + J * 8 + 6, none⟩ = some (.int .u8 (G J).su) ∧ w'.cell? ⟨b, o + J * 8 + 7, none⟩ = some (.bool (G J).re) ∧ Below w.heap.size w w') : World → Prop) W := by
        intro W hW
        have hs := hS0.on hW hb
        exact ⟨hs I 0 hI (by omega), hs I 1 hI (by omega), hs I 2 hI (by omega), hs I 3 hI (by omega), hs I 4 hI (by omega), hs I 5 hI (by omega), hs I 6 hI (by omega), hs I 7 hI (by omega),
          hs J 0 hJ (by omega), hs J 1 hJ (by omega), hs J 2 hJ (by omega), hs J 3 hJ (by omega), hs J 4 hJ (by omega), hs J 5 hJ (by omega), hs J 6 hJ (by omega), hs J 7 hJ (by omega), hW⟩
      have hdr : ∀ W, Below w.heap.size w W → Below w.heap.size w W.drew := fun W h => h.drew
      obtain ⟨K, hK⟩ : ∃ K, K = cmpP (G I) (G J) := ⟨_, rfl⟩
      have hpl : ∀ W, Below w.heap.size w W → Calls Try.prog 13 #[.agg #[.float .f64 (G I).it, .float .f64 (G I).pt, .int .i64 (G I).st, .int .i64 (G I).en, .int .u8 (G I).li, .int .u8 (G I).fi, .int .u8 (G I).su, .bool (G I).re], .agg #[.float .f64 (G J).it, .float .f64 (G J).pt, .int .i64 (G J).st, .int .i64 (G J).en, .int .u8 (G J).li, .int .u8 (G J).fi, .int .u8 (G J).su, .bool (G J).re]] W fun e w' => e = .returned (.int .i64 K) ∧ Below w.heap.size w w' := by
        intro W hW
        refine (HPL.out W).mono ?_
        rintro e w' ⟨he, hb'⟩
        exact ⟨by rw [he, hK]; rfl, hW.trans (hb'.mono hW.size)⟩
      have HR : (r1 = true ∧ r2 = false ∧ (K == 0) = false) ∨ (r1 = false ∧ r2 = true ∧ (K == 0) = false) ∨ (r1 = false ∧ r2 = false ∧ (K == 0) = true) := by
        rw [cmpP_swap, ← hK] at er2'
        rw [← hK] at er1
        subst er1 er2'
        rcases Int.lt_trichotomy K 0 with h | h | h
        · exact .inl ⟨by simp; omega, by simp; omega, by simp; omega⟩
        · exact .inr (.inr ⟨by simp; omega, by simp; omega, by simp; omega⟩)
        · exact .inr (.inl ⟨by simp; omega, by simp; omega, by simp; omega⟩)
      have HP := Lib.hid hpl
      have HSP := Lib.hid hSp
      have HHR := Lib.hid HR
      have HQ5 := Lib.hid q5
      clear HB HB1 HB2 HB3 HB4 HU1 HU2 hb5 q1 q2 q3 q4 q5 er1 er2 er2' hK hS0 HS HS2 HPL hpl hSp HR hdr
      go_upto_region 20 with fail
      go_region_held3 (fun w' => w'.cell? ⟨b, o + I * 8, none⟩ = some (.float .f64 (G I).it) ∧ w'.cell? ⟨b, o + I * 8 + 1, none⟩ = some (.float .f64 (G I).pt) ∧ w'.cell? ⟨b, o + I * 8 + 2, none⟩ = some (.int .i64 (G I).st) ∧ w'.cell? ⟨b, o + I * 8 + 3, none⟩ = some (.int .i64 (G I).en) ∧ w'.cell? ⟨b, o + I * 8 + 4, none⟩ = some (.int .u8 (G I).li) ∧ w'.cell? ⟨b, o + I * 8 + 5, none⟩ = some (.int .u8 (G I).fi) ∧ w'.cell? ⟨b, o + I * 8 + 6, none⟩ = some (.int .u8 (G I).su) ∧ w'.cell? ⟨b, o + I * 8 + 7, none⟩ = some (.bool (G I).re) ∧ w'.cell? ⟨b, o + J * 8, none⟩ = some (.float .f64 (G J).it) ∧ w'.cell? ⟨b, o + J * 8 + 1, none⟩ = some (.float .f64 (G J).pt) ∧ w'.cell? ⟨b, o + J * 8 + 2, none⟩ = some (.int .i64 (G J).st) ∧ w'.cell? ⟨b, o + J * 8 + 3, none⟩ = some (.int .i64 (G J).en) ∧ w'.cell? ⟨b, o + J * 8 + 4, none⟩ = some (.int .u8 (G J).li) ∧ w'.cell? ⟨b, o + J * 8 + 5, none⟩ = some (.int .u8 (G J).fi) ∧ w'.cell? ⟨b, o + J * 8 + 6, none⟩ = some (.int .u8 (G J).su) ∧ w'.cell? ⟨b, o + J * 8 + 7, none⟩ = some (.bool (G J).re) ∧ Below w.heap.size w w') (first | (exact HSP.out _ HQ5.out) | (exact HSP.out _ HQ5.out.drew) | (exact HSP.out _ (by assumption)) | (go_split_ands; exact HSP.out _ (by assumption)))
        (first | (go_at_call 13; refine (HP.out _ (by first | exact HQ5.out | exact HQ5.out.drew | (go_split_ands; assumption))).mono ?_; rintro e w6 ⟨rfl, hb6⟩))
      all_goals
        have hr := HHR.out
        clear HHR HSP HP HQ5
        generalize (K == 0) = z at *
        rcases hr with ⟨rfl, rfl, rfl⟩ | ⟨rfl, rfl, rfl⟩ | ⟨rfl, rfl, rfl⟩
        · go_wp2
          go_ret
          exact ⟨rfl, hb6⟩
        · go_wp2
          go_ret
          exact ⟨rfl, hb6⟩
        · go_wp2
          go_ret
          exact ⟨rfl, hb6⟩
end Go.Proofs.Qxb6614596a
