/-
  The pieces in their blocks: the plain words; what one append makes of them.
-/
import Derived.Test.Qxb6614596aRows
import Derived.WalkKit
import Derived.WalkSpells
import Derived.WalkLawsBesides
import Derived.Lib.Hide
namespace Go.Proofs.Qxb6614596a
open Go.RowKit
set_option linter.unusedVariables false

/-- A piece. -/
structure PC where
  it : Nat
  pt : Nat
  st : Int
  en : Int
  li : Int
  fi : Int
  su : Int
  re : Bool

/-- Its eight cells. -/
def PC.cells (p : PC) : List Value := [.float .f64 p.it, .float .f64 p.pt, .int .i64 p.st, .int .i64 p.en, .int .u8 p.li, .int .u8 p.fi, .int .u8 p.su, .bool p.re]

/-- The cells of n pieces from the s-th on. -/
def blk (F : Nat → PC) (s : Nat) : Nat → List Value
  | 0 => []
  | n + 1 => blk F s n ++ (F (s + n)).cells

theorem blk_length (F : Nat → PC) (s : Nat) : ∀ n, (blk F s n).length = n * 8
  | 0 => rfl
  | n + 1 => by simp only [blk, List.length_append, blk_length F s n]; simp [PC.cells]; omega

theorem blk_at (F : Nat → PC) (s : Nat) : ∀ (n i c : Nat), i < n → c < 8 → (blk F s n)[i * 8 + c]? = ((F (s + i)).cells)[c]?
  | 0, i, c, h, _ => absurd h (by omega)
  | n + 1, i, c, h, hc => by
    simp only [blk]
    by_cases e : i = n
    · subst e
      rw [List.getElem?_append_right (by rw [blk_length]; omega), blk_length]
      congr 1
      omega
    · rw [List.getElem?_append_left (by rw [blk_length]; omega)]
      exact blk_at F s n i c (by omega) hc

theorem blk_congr (F G : Nat → PC) (s : Nat) : ∀ n, (∀ i, i < n → F (s + i) = G (s + i)) → blk F s n = blk G s n
  | 0, _ => rfl
  | n + 1, h => by simp only [blk]; rw [blk_congr F G s n (fun i hi => h i (by omega)), h n (by omega)]

/-- How many blocks k pieces take; how many of them lie in block t. -/
def nbk (k : Nat) : Nat := (k + 1023) / 1024
def lenk (k t : Nat) : Nat := min 1024 (k - 1024 * t)

/-- The inner slice of block t. -/
def inn (h : Nat) (l : Nat) : Value := .slice (some ⟨h, 0, none⟩) l 1024

/-- The outer row's cells. -/
def outer (hs : Nat → Nat) (k : Nat) : Nat → List Value
  | 0 => []
  | n + 1 => outer hs k n ++ [inn (hs n) (lenk k n)]

/-- v holds the first k pieces of F, in blocks of the call's own (from B on). -/
def Built (B : Nat) (w : World) (v : Value) (k : Nat) (F : Nat → PC) : Prop :=
  ∃ hs : Nat → Nat, w.ownsRow B 55 1 v (nbk k) (outer hs k (nbk k)) ∧
    (∀ t, t < nbk k → w.ownsRow B 57 8 (inn (hs t) (lenk k t)) (lenk k t) (blk F (1024 * t) (lenk k t))) ∧
    ∀ t u, t < nbk k → u < nbk k → hs t = hs u → t = u

theorem Built.on {B : Nat} {w w' : World} {v : Value} {k : Nat} {F : Nat → PC} (h : Built B w v k F) (hb : Below w.heap.size w w') : Built B w' v k F := by
  obtain ⟨hs, h1, h2, h3⟩ := h
  have key : ∀ {e size v n xs}, w.ownsRow B e size v n xs → w'.ownsRow B e size v n xs := by
    intro e size v n xs h
    refine ⟨h.1, ?_⟩
    rcases h.2 with h | ⟨g, cap, cur, hv, hB, hg, rest⟩
    · exact .inl h
    · exact .inr ⟨g, cap, cur, hv, hB, by rw [hb.block g (lt_of_block hg)]; exact hg, rest⟩
  exact ⟨hs, key h1, fun t ht => key (h2 t ht), h3⟩

theorem Built.start (B : Nat) (w : World) (F : Nat → PC) : Built B w (.slice none 0 0) 0 F :=
  ⟨fun t => t, World.ownsRow_nil _ _ _ _, fun t ht => absurd ht (by simp [nbk]), fun t u ht => absurd ht (by simp [nbk])⟩

theorem outer_length (hs : Nat → Nat) (k : Nat) : ∀ n, (outer hs k n).length = n
  | 0 => rfl
  | n + 1 => by simp [outer, outer_length hs k n]
theorem outer_at (hs : Nat → Nat) (k : Nat) : ∀ (n t : Nat), t < n → (outer hs k n)[t]? = some (inn (hs t) (lenk k t))
  | 0, t, h => absurd h (by omega)
  | n + 1, t, h => by
    simp only [outer]
    by_cases e : t = n
    · subst e
      rw [List.getElem?_append_right (by rw [outer_length]; exact Nat.le_refl _), outer_length]
      simp
    · rw [List.getElem?_append_left (by rw [outer_length]; omega)]
      exact outer_at hs k n t (by omega)
theorem outer_congr (hs hs' : Nat → Nat) (k k' : Nat) : ∀ n, (∀ t, t < n → hs t = hs' t ∧ lenk k t = lenk k' t) → outer hs k n = outer hs' k' n
  | 0, _ => rfl
  | n + 1, h => by simp only [outer]; rw [outer_congr hs hs' k k' n (fun t ht => h t (by omega)), (h n (by omega)).1, (h n (by omega)).2]

/-- Where piece i lies. -/
theorem Built.cell {B : Nat} {w : World} {v : Value} {k : Nat} {F : Nat → PC} (h : Built B w v k F) {i : Nat} (hi : i < k) :
    ∃ (g cap hb : Nat), v = .slice (some ⟨g, 0, none⟩) (nbk k) cap ∧ w.cell? ⟨g, i / 1024, none⟩ = some (inn hb (lenk k (i / 1024))) ∧
      ∀ c, c < 8 → w.cell? ⟨hb, i % 1024 * 8 + c, none⟩ = ((F i).cells)[c]? := by
  obtain ⟨hs, h1, h2, h3⟩ := h
  have hn : i / 1024 < nbk k := by unfold nbk; omega
  have hl : i % 1024 < lenk k (i / 1024) := by unfold lenk; omega
  rcases h1.2 with ⟨_, h0⟩ | ⟨g, cap, cur, hv, _⟩
  · omega
  · refine ⟨g, cap, hs (i / 1024), hv, ?_, ?_⟩
    · rw [hv] at h1
      rw [h1.cellAt (i / 1024) (by omega), outer_at hs k _ _ hn]
    · intro c hc
      have ho := h2 _ hn
      unfold inn at ho
      rw [ho.cellAt (i % 1024 * 8 + c) (by omega), blk_at F _ _ _ _ hl hc]
      congr 3
      omega

/-- The same, the number of blocks told apart (one may still be empty). -/
def BuiltN (B : Nat) (w : World) (v : Value) (k n : Nat) (F : Nat → PC) : Prop :=
  ∃ hs : Nat → Nat, w.ownsRow B 55 1 v n (outer hs k n) ∧
    (∀ t, t < n → w.ownsRow B 57 8 (inn (hs t) (lenk k t)) (lenk k t) (blk F (1024 * t) (lenk k t))) ∧
    ∀ t u, t < n → u < n → hs t = hs u → t = u

/-- Two owned rows of different element types lie in different blocks. -/
theorem own_apart {w : World} {B B' g h n m c c' s s' : Nat} {xs ys : List Value} (h1 : w.ownsRow B 55 s (.slice (some ⟨g, 0, none⟩) n c) n xs) (h2 : w.ownsRow B' 57 s' (.slice (some ⟨h, 0, none⟩) m c') m ys) : g ≠ h := by
  rintro rfl
  rcases h1.2 with ⟨e, _⟩ | ⟨g1, c1, cur1, e1, _, hg1, _⟩
  · cases e
  · rcases h2.2 with ⟨e, _⟩ | ⟨g2, c2, cur2, e2, _, hg2, _⟩
    · cases e
    · simp only [Value.slice.injEq, Option.some.injEq, Addr.mk.injEq, and_true, true_and] at e1 e2
      rw [← e1.1] at hg1
      rw [← e2.1, hg1] at hg2
      simp at hg2

/-- A store into another block. -/
theorem set_other {w : World} {B e s n g q h m c : Nat} {u : Value} {xs : List Value} (h1 : w.ownsRow B e s (.slice (some ⟨h, 0, none⟩) m c) n xs) (hne : g ≠ h) : (w.setCell ⟨g, q, none⟩ u).ownsRow B e s (.slice (some ⟨h, 0, none⟩) m c) n xs := by
  refine ⟨h1.1, ?_⟩
  rcases h1.2 with h | ⟨g1, c1, cur1, e1, hb, hg1, rest⟩
  · exact .inl h
  · refine .inr ⟨g1, c1, cur1, e1, hb, ?_, rest⟩
    simp only [Value.slice.injEq, Option.some.injEq, Addr.mk.injEq, and_true] at e1
    rw [heap_setCell_other _ _ _ _ (by rw [← e1.1]; exact fun e => hne e.symm)]
    exact hg1

/-- What the walk reads of the last block. -/
theorem BuiltN.last {B : Nat} {w : World} {v : Value} {k q : Nat} {F : Nat → PC} (h : BuiltN B w v k (q + 1) F) (hk : 1024 * q ≤ k) (hk2 : k < 1024 * q + 1024) :
    ∃ (g cap hb : Nat), v = .slice (some ⟨g, 0, none⟩) (q + 1) cap ∧ B ≤ g ∧ B ≤ hb ∧ g ≠ hb ∧ w.cell? ⟨g, q, none⟩ = some (inn hb (k - 1024 * q)) ∧ w.frozen? ⟨g, q, none⟩ = false ∧
      w.ownsRow B 57 8 (inn hb (k - 1024 * q)) (k - 1024 * q) (blk F (1024 * q) (k - 1024 * q)) ∧
      ∀ (o : Obj) (w2 : World), (w.alloc o).grownBy w2 (some hb) → w2.ownsRow B 57 8 (inn hb (k - 1024 * q + 1)) (k - 1024 * q + 1) (blk F (1024 * q) (k - 1024 * q) ++ (F k).cells) →
        w2.cell? ⟨g, q, none⟩ = some (inn hb (k - 1024 * q)) ∧ w2.frozen? ⟨g, q, none⟩ = false ∧ BuiltN B (w2.setCell ⟨g, q, none⟩ (inn hb (k - 1024 * q + 1))) v (k + 1) (q + 1) F := by
  obtain ⟨hs, h1, h2, h3⟩ := h
  have hl : lenk k q = k - 1024 * q := by unfold lenk; omega
  have hq := h2 q (by omega)
  rw [hl] at hq
  rcases h1.2 with ⟨_, h0⟩ | ⟨g, cap, cur, hv, hBg, _⟩
  · omega
  · have h1' := h1
    rw [hv] at h1'
    have hap := own_apart h1' hq
    have hBh : B ≤ hs q := by
      rcases hq.2 with ⟨e, _⟩ | ⟨g2, c2, cur2, e2, hb2, _⟩
      · cases e
      · simp only [inn, Value.slice.injEq, Option.some.injEq, Addr.mk.injEq, and_true, true_and] at e2
        rw [e2.1]; exact hb2
    have hcell : w.cell? ⟨g, q, none⟩ = some (inn (hs q) (k - 1024 * q)) := by
      rw [h1'.cellAt q (by omega), outer_at hs k _ _ (by omega), hl]
    refine ⟨g, cap, hs q, hv, hBg, hBh, hap, hcell, h1'.frozenAt q, hq, ?_⟩
    intro o w2 hgr hown
    have ho := (h1'.alloc o).kept hgr (.inr (by simp [Value.ownBlock]; exact hap))
    have hc2 : w2.cell? ⟨g, q, none⟩ = some (inn (hs q) (k - 1024 * q)) := by
      rw [ho.cellAt q (by omega), outer_at hs k _ _ (by omega), hl]
    refine ⟨hc2, ho.frozenAt q, hs, ?_, ?_, h3⟩
    · have hst := (ho.stored q (inn (hs q) (k - 1024 * q + 1))).1
      rw [hv]
      have e : (outer hs k (q + 1)).set q (inn (hs q) (k - 1024 * q + 1)) = outer hs (k + 1) (q + 1) := by
        simp only [outer]
        rw [List.set_append_right _ _ (by rw [outer_length]; exact Nat.le_refl _), outer_length, Nat.sub_self, List.set_cons_zero]
        rw [outer_congr hs hs k (k + 1) q (fun t ht => ⟨rfl, by unfold lenk; omega⟩), show lenk (k + 1) q = k - 1024 * q + 1 by unfold lenk; omega]
      rw [e] at hst
      exact hst
    · intro t ht
      by_cases e : t = q
      · subst e
        rw [show lenk (k + 1) t = k - 1024 * t + 1 by unfold lenk; omega]
        have e2 : blk F (1024 * t) (k - 1024 * t + 1) = blk F (1024 * t) (k - 1024 * t) ++ (F k).cells := by
          simp only [blk]
          rw [show 1024 * t + (k - 1024 * t) = k by omega]
        rw [e2]
        exact set_other hown (fun e => hap e)
      · have e1 : lenk (k + 1) t = lenk k t := by unfold lenk; omega
        rw [e1]
        have hk1 := ((h2 t ht).alloc o).kept hgr (.inr (by simp [inn, Value.ownBlock]; intro e3; exact e (h3 t q ht (by omega) e3)))
        exact set_other hk1 (own_apart h1' (h2 t ht))
end Go.Proofs.Qxb6614596a
