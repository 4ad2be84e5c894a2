/-
  FnOverlaysSizeInsert: what its walks want: the sources and the results of its appends; what one overlay more does to the sum.
-/
import Derived.Test.Qxb6615877aBounds
namespace Go.Proofs.Qxb6615877a
open Go.RowKit

theorem info22 : (Try.prog.info? 22).map (fun i => (i.zero, i.size, i.bytes)) = some (some (.slice none 0 0), 1, 24) := by kernel_rfl

theorem sv_oneCell (L : List (Option Addr × Nat × Nat)) : ∀ u ∈ L.map sv, u.oneCell' = true := by
  intro u hu
  obtain ⟨t, _, rfl⟩ := List.mem_map.1 hu
  rfl

/-- 'xs[:I]', appended. -/
theorem src_front {W : World} {a : Option Addr} {n ca I : Nat} {L : List (Option Addr × Nat × Nat)} (h : Holds2 W a n ca L) (hI : I ≤ n) {ao : Option Addr} (hao : ao = a) :
    (ao = none → I = 0 ∧ ca = 0) ∧ ∀ ad, ao = some ad → ∀ j u, ((L.take I).map sv)[j]? = some u → W.cell? (ad.add j) = some u := by
  subst hao
  obtain ⟨h1, h2, h3, h4⟩ := h
  refine ⟨fun e => ⟨by have := (h3 e).1; omega, (h3 e).2⟩, fun ad e j u hu => ?_⟩
  have hj := (List.getElem?_eq_some_iff.1 hu).1
  simp only [List.length_map, List.length_take] at hj
  rw [h4 ad e j (by omega), ← hu]
  simp [List.getD, show j < L.length by omega, show j < I by omega]

/-- 'xs[I:]', appended. -/
theorem src_back {W : World} {a : Option Addr} {n ca I : Nat} {L : List (Option Addr × Nat × Nat)} (h : Holds2 W a n ca L) {ao : Option Addr} (hno : a = none → ao = none) (hso : ∀ x, a = some x → ao ≠ none) (hao : I < n → ∀ x, a = some x → ao = some (x.add I)) :
    (ao = none → n - I = 0 ∧ ca - I = 0) ∧ ∀ ad, ao = some ad → ∀ j u, ((L.drop I).map sv)[j]? = some u → W.cell? (ad.add j) = some u := by
  obtain ⟨h1, h2, h3, h4⟩ := h
  cases a with
  | none =>
    have e0 := h3 rfl
    refine ⟨fun _ => ⟨by omega, by omega⟩, fun ad e => ?_⟩
    rw [hno rfl] at e
    cases e
  | some x =>
    refine ⟨fun e => absurd e (hso x rfl), fun ad e j u hu => ?_⟩
    have hj := (List.getElem?_eq_some_iff.1 hu).1
    simp only [List.length_map, List.length_drop] at hj
    rw [hao (by omega) x rfl] at e
    obtain rfl := Option.some.inj e
    rw [Addr.add_add, h4 x rfl (I + j) (by omega), ← hu]
    simp [List.getD, show I + j < L.length by omega]

/-- The row that the three appends built. -/
theorem own_ins {W : World} {base G n I : Nat} {L : List (Option Addr × Nat × Nat)} {t : Option Addr × Nat × Nat} (hL : L.length = n) (hI : I ≤ n)
    (h : W.ownsRow base 22 1 (.slice (some ⟨G, 0, none⟩) (I + 1 + (n - I)) (n + 1)) (I + 1 + (n - I)) ((L.take I).map sv ++ [sv t] ++ (L.drop I).map sv)) :
    Holds2 W (some ⟨G, 0, none⟩) (I + 1 + (n - I)) (n + 1) (L.take I ++ t :: L.drop I) := by
  refine ⟨by simp; omega, by omega, fun e => (by cases e), fun x e j hj => ?_⟩
  obtain rfl := Option.some.inj e
  refine h.cells (g := G) rfl j _ ?_
  have e2 : (L.take I).map sv ++ [sv t] ++ (L.drop I).map sv = (L.take I ++ t :: L.drop I).map sv := by simp
  have hl : j < (L.take I ++ t :: L.drop I).length := by simp; omega
  rw [e2, List.getElem?_map, List.getElem?_eq_getElem hl, List.getD, List.getElem?_eq_getElem hl]
  rfl

theorem Low.small {L : List (Option Addr × Nat × Nat)} {n : Nat} (h : Low L n) (hL : L.length = n) : Small L := by
  intro j
  by_cases hj : j < n
  · have := h j hj; omega
  · have e : L.getD j d0 = d0 := by simp [List.getD, List.getElem?_eq_none (show L.length ≤ j by omega)]
    rw [e]
    simp [d0]

theorem ins_lt {L : List (Option Addr × Nat × Nat)} {t : Option Addr × Nat × Nat} {I : Nat} (hI : I ≤ L.length) {j : Nat} (hj : j < I) : (L.take I ++ t :: L.drop I).getD j d0 = L.getD j d0 := by
  simp only [List.getD]
  rw [List.getElem?_append_left (by simp; omega), List.getElem?_take, if_pos hj]
theorem ins_eq {L : List (Option Addr × Nat × Nat)} {t : Option Addr × Nat × Nat} {I : Nat} (hI : I ≤ L.length) : (L.take I ++ t :: L.drop I).getD I d0 = t := by
  have e : (L.take I).length = I := by simp; omega
  simp only [List.getD]
  rw [List.getElem?_append_right (by omega), e, Nat.sub_self]
  rfl
theorem ins_gt {L : List (Option Addr × Nat × Nat)} {t : Option Addr × Nat × Nat} {I : Nat} (hI : I ≤ L.length) {j : Nat} (hj : I ≤ j) : (L.take I ++ t :: L.drop I).getD (j + 1) d0 = L.getD j d0 := by
  have e : (L.take I).length = I := by simp; omega
  simp only [List.getD]
  rw [List.getElem?_append_right (by omega), e, show j + 1 - I = (j - I) + 1 by omega, List.getElem?_cons_succ, List.getElem?_drop, show I + (j - I) = j by omega]

theorem Small.ins {L : List (Option Addr × Nat × Nat)} {t : Option Addr × Nat × Nat} {I : Nat} (h : Small L) (hI : I ≤ L.length) (ht : t.2.1 < 2097152) : Small (L.take I ++ t :: L.drop I) := by
  intro j
  rcases Nat.lt_trichotomy j I with hj | rfl | hj
  · rw [ins_lt hI hj]; exact h j
  · rw [ins_eq hI]; exact ht
  · obtain ⟨k, rfl⟩ : ∃ k, j = k + 1 := ⟨j - 1, by omega⟩
    rw [ins_gt hI (by omega)]; exact h k

/-- THE PLAIN LAW: one overlay more adds its own size to the sum. -/
theorem psum_ins {Lo Hi : List (Option Addr × Nat × Nat)} {t u : Option Addr × Nat × Nat} {I n : Nat} (h1 : Lo.length = n) (h2 : Hi.length = n) (hI : I ≤ n) :
    psum (Lo.take I ++ t :: Lo.drop I) (Hi.take I ++ u :: Hi.drop I) (n + 1) = psum Lo Hi n + (fsz (t.2.1 : Nat) + fsz (u.2.1 : Nat) + 20) := by
  have a : ∀ k, k ≤ I → psum (Lo.take I ++ t :: Lo.drop I) (Hi.take I ++ u :: Hi.drop I) k = psum Lo Hi k := by
    intro k
    induction k with
    | zero => intro _; rfl
    | succ k ih =>
      intro hk
      simp only [psum]
      rw [ih (by omega), term, term, ins_lt (by omega) (by omega), ins_lt (by omega) (by omega)]
  have b : ∀ k, I ≤ k → psum (Lo.take I ++ t :: Lo.drop I) (Hi.take I ++ u :: Hi.drop I) (k + 1) = psum Lo Hi k + (fsz (t.2.1 : Nat) + fsz (u.2.1 : Nat) + 20) := by
    intro k hk
    induction k with
    | zero =>
      obtain rfl : I = 0 := by omega
      simp only [psum]
      rw [term, ins_eq (by omega), ins_eq (by omega)]
    | succ k ih =>
      by_cases e : I = k + 1
      · subst e
        rw [psum, a (k + 1) (Nat.le_refl _), term, ins_eq (by omega), ins_eq (by omega)]
      · rw [psum, ih (by omega)]
        simp only [psum]
        rw [term, term, ins_gt (by omega) (by omega), ins_gt (by omega) (by omega)]
        omega
  exact b n hI

/-- 'zzc := make([]byte, len(x)); copy(zzc, x)', both runs ahead. -/
theorem clone_ahead (x : Addr) (len cap : Nat) (zs : List Int) (W : World) (hlen : len ≤ 1048576) (hl : len ≤ cap) (hz : zs.length = cap)
    (hcell : ∀ i, i < zs.length → W.cell? (x.add i) = some (.int .u8 (zs.getD i 0))) :
    ∃ (M : Array Value) (W' : World), (∀ V : World, (Instr.makeSlice 22 (.int .i64 (len : Int)) (.int .i64 (len : Int))).run Try.prog V = .ok (.slice (some ⟨V.heap.size, 0, none⟩) len len) (V.alloc (.cells M 5)))
      ∧ (∀ ty, (Builtin.copy_ #[22, 22] ty #[.slice (some ⟨W.heap.size, 0, none⟩) len len, .slice (some x) len cap]).run Try.prog (W.alloc (.cells M 5)) = .ok (goInt len) W') ∧ Below W.heap.size W W' := by
  obtain ⟨M, hM, hmk⟩ := make_ahead len (by omega)
  obtain ⟨Y, hY, hcp⟩ := copy_ahead M x len cap zs W hM hl hz hcell
  exact ⟨M, _, hmk, hcp, below_setRow ((Below.refl _ _).alloc (Nat.le_refl _) _) (Nat.le_refl _) _⟩
end Go.Proofs.Qxb6615877a
