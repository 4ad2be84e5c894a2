/-
  (pieces).at, (pieces).Less, ZZless, walked.
-/
import Derived.Test.Qxb6614596aBuild
import Derived.Test.Qxb6614596aBefore
namespace Go.Proofs.Qxb6614596a
open Go.RowKit
set_option linter.unusedVariables false

/-- How two pieces compare by their places. -/
def cmpP (x y : PC) : Int := cor (cmpI x.li y.li) (cmpF x.it y.it) (cmpI x.fi y.fi) (cmpF x.pt y.pt) (cmpI x.su y.su) (cmpI x.st y.st)

theorem cmpP_swap (x y : PC) : cmpP y x = - cmpP x y := by
  unfold cmpP
  rw [cmpI_swap x.li, cmpF_swap x.it, cmpI_swap x.fi, cmpF_swap x.pt, cmpI_swap x.su, cmpI_swap x.st, cor_neg]

theorem at21 (g hb nb cap l i : Nat) (hi : i < 1048576) (h1 : i / 1024 < nb) (h2 : i % 1024 < l) (w : World) (hc : w.cell? ⟨g, i / 1024, none⟩ = some (.slice (some ⟨hb, 0, none⟩) l 1024)) :
    Calls Try.prog 21 #[.slice (some ⟨g, 0, none⟩) nb cap, .int .i64 (i : Int)] w fun e w' => e = .returned (.pointer (some ⟨hb, i % 1024 * 8, none⟩)) ∧ w' = w := by
  go_enter Try.func21, Try.ntmps21
  go_wp2
  go_ret
  exact ⟨rfl, rfl⟩

/-- ZZless: the order of the places. -/
theorem zzless (B : Nat) (v : Value) (k i j : Nat) (F : Nat → PC) (hi : i < k) (hj : j < k) (hk : k ≤ 16384) (w : World) (h : Built B w v k F) :
    Calls Try.prog 12 #[v, .int .i64 (i : Int), .int .i64 (j : Int)] w fun e w' => e = .returned (.bool (decide (cmpP (F i) (F j) < 0))) ∧ Below w.heap.size w w' := by
  obtain ⟨g, cap, hb, rfl, hc, hx⟩ := h.cell hi
  obtain ⟨g', cap', hb', e', hc', hy⟩ := h.cell hj
  simp only [Value.slice.injEq, Option.some.injEq, Addr.mk.injEq, and_true, true_and] at e'
  obtain ⟨rfl, rfl⟩ := e'
  have n1 : i / 1024 < nbk k := by unfold nbk; omega
  have n2 : j / 1024 < nbk k := by unfold nbk; omega
  have m1 : i % 1024 < lenk k (i / 1024) := by unfold lenk; omega
  have m2 : j % 1024 < lenk k (j / 1024) := by unfold lenk; omega
  have ka := at21 g hb (nbk k) cap (lenk k (i / 1024)) i (by omega) n1 m1 w hc
  have kb := at21 g hb' (nbk k) cap (lenk k (j / 1024)) j (by omega) n2 m2 w hc'
  have kc := before hb (i % 1024 * 8) hb' (j % 1024 * 8) (F i).it (F i).pt (F j).it (F j).pt (F i).st (F i).li (F i).fi (F i).su (F j).st (F j).li (F j).fi (F j).su w
    (hx 0 (by omega)) (hx 1 (by omega)) (hx 2 (by omega)) (hx 4 (by omega)) (hx 5 (by omega)) (hx 6 (by omega)) (hy 0 (by omega)) (hy 1 (by omega)) (hy 2 (by omega)) (hy 4 (by omega)) (hy 5 (by omega)) (hy 6 (by omega))
  rw [show cor (cmpI (F i).li (F j).li) (cmpF (F i).it (F j).it) (cmpI (F i).fi (F j).fi) (cmpF (F i).pt (F j).pt) (cmpI (F i).su (F j).su) (cmpI (F i).st (F j).st) = cmpP (F i) (F j) from rfl] at kc
  generalize decide (cmpP (F i) (F j) < 0) = r at kc ⊢
  generalize nbk k = nb at *
  have KA := Lib.hid ka
  have KB := Lib.hid kb
  have KC := Lib.hid kc
  clear ka kb kc hx hy hc hc' h n1 n2 m1 m2
  have less17 : Calls Try.prog 17 #[.slice (some ⟨g, 0, none⟩) nb cap, .int .i64 (i : Int), .int .i64 (j : Int)] w fun e w' => e = .returned (.bool r) ∧ Below w.heap.size w w' := by
    go_enter Try.func17, Try.ntmps17
    go_wp2_with fail
    refine KA.out.mono ?_
    rintro e w' ⟨rfl, rfl⟩
    go_wp2_with fail
    refine KB.out.mono ?_
    rintro e w' ⟨rfl, rfl⟩
    go_wp2_with fail
    refine KC.out.mono ?_
    rintro e w' ⟨rfl, hbb⟩
    go_wp2
    go_ret
    exact ⟨rfl, hbb⟩
  have KL := Lib.hid less17
  clear less17 KA KB KC
  go_enter Try.func12, Try.ntmps12
  go_wp2_with (go_at_call 17; refine KL.out.mono ?_; rintro e w2 ⟨rfl, hbb⟩)
  go_ret
  exact ⟨rfl, hbb⟩
end Go.Proofs.Qxb6614596a
