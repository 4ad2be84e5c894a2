/-
  The law FnOverlaysSizeInsert, proved: the frame after the kit's shells (proof-skeleton.mjs), turned to five parameters, two of them slices of slices.
-/
import Derived.Test.Qxb6615877aRows
import Derived.Test.Qxb6615877aInsOut
import Derived.WalkKit
import Derived.ProofKit
import Derived.OpenShut
import Derived.ShutString
import Derived.ChangeOld
import Derived.Below
import Derived.Deep.Slices
namespace Go.Proofs.Qxb6615877a.fnOverlaysSizeInsert
open Go.ChangeShapes Go.WideShapes Go.ChangeAt Go.RowKit
set_option linter.unusedVariables false

theorem own : ownKnob Try.prog.godebug = none := by kernel_rfl
theorem laidOut : laidOutB Try.prog = true := by kernel_rfl
theorem cells22 : Try.prog.cellsOf 22 = 1 := by kernel_rfl
theorem cells5 : Try.prog.cellsOf 5 = 1 := by kernel_rfl

/-- WHAT THE WALK IS TOLD OF A SLICE OF INTEGERS THAT CAME IN. -/
def IsRow (k : IntKind) (w : World) (a : Option Addr) (len cap : Nat) (zs : List Int) : Prop :=
  (a = none ∧ len = 0 ∧ cap = 0 ∧ zs = []) ∨
  ∃ x, a = some x ∧ len ≤ cap ∧ cap ≤ maxLen ∧ zs.length = cap ∧ (∀ i, i < zs.length → w.cell? (x.add i) = some (.int k (zs.getD i 0))) ∧ ∀ n ∈ zs, (Lit.int k n).wf = true

theorem walk (a b c d : Option Addr) (n m ca cb cl cc dl dc : Nat) (i : Int) (Lo Hi : List (Option Addr × Nat × Nat)) (zl zh : List Int) (w : World)
    (hx : Holds2 w a n ca Lo) (hy : Holds2 w b m cb Hi) (hl : IsRow .u8 w c cl cc zl) (hh : IsRow .u8 w d dl dc zh) :
    Calls Try.prog 6 #[.slice a n ca, .slice b m cb, .int .i64 i, .slice c cl cc, .slice d dl dc] w fun e w' => e = .returned (.bool true) ∧ Below w.heap.size w w' := by
  by_cases c0 : cl ≤ 1048576 ∧ dl ≤ 1048576
  · obtain ⟨hcl, hdl⟩ := c0
    by_cases c1 : 65536 < n
    · exact out_many1 a b c d n m ca cb cl cc dl dc i Lo Hi w hx hy c1
    · by_cases c2 : 65536 < m
      · exact out_many2 a b c d n m ca cb cl cc dl dc i Lo Hi w hx hy (by omega) c2
      · by_cases c3 : n = m
        · subst c3
          have hn : n ≤ 65536 := by omega
          rcases hl with ⟨rfl, rfl, rfl, rfl⟩ | ⟨x, rfl, hl1, _, hl2, hl3, _⟩
          · rcases hh with ⟨rfl, rfl, rfl, rfl⟩ | ⟨y, rfl, hh1, _, hh2, hh3, _⟩
            · by_cases c4 : i < 0
              · exact neg_NN a b n ca cb i c4 Lo Hi w hx hy hn
              · by_cases c5 : (n : Int) < i
                · exact past_NN a b n ca cb i (by omega) c5 Lo Hi w hx hy hn
                · obtain ⟨I, rfl⟩ := Int.eq_ofNat_of_zero_le (show 0 ≤ i by omega)
                  exact walk_NN a b n ca cb I (by omega) Lo Hi w hx hy hn
            · by_cases c4 : i < 0
              · exact neg_NS a b n ca cb i c4 Lo Hi y dl dc zh hdl hh1 hh2 w hx hy hn hh3
              · by_cases c5 : (n : Int) < i
                · exact past_NS a b n ca cb i (by omega) c5 Lo Hi y dl dc zh hdl hh1 hh2 w hx hy hn hh3
                · obtain ⟨I, rfl⟩ := Int.eq_ofNat_of_zero_le (show 0 ≤ i by omega)
                  exact walk_NS a b n ca cb I (by omega) Lo Hi y dl dc zh hdl hh1 hh2 w hx hy hn hh3
          · rcases hh with ⟨rfl, rfl, rfl, rfl⟩ | ⟨y, rfl, hh1, _, hh2, hh3, _⟩
            · by_cases c4 : i < 0
              · exact neg_SN a b n ca cb i c4 Lo Hi x cl cc zl hcl hl1 hl2 w hx hy hn hl3
              · by_cases c5 : (n : Int) < i
                · exact past_SN a b n ca cb i (by omega) c5 Lo Hi x cl cc zl hcl hl1 hl2 w hx hy hn hl3
                · obtain ⟨I, rfl⟩ := Int.eq_ofNat_of_zero_le (show 0 ≤ i by omega)
                  exact walk_SN a b n ca cb I (by omega) Lo Hi x cl cc zl hcl hl1 hl2 w hx hy hn hl3
            · by_cases c4 : i < 0
              · exact neg_SS a b n ca cb i c4 Lo Hi x cl cc zl hcl hl1 hl2 y dl dc zh hdl hh1 hh2 w hx hy hn hl3 hh3
              · by_cases c5 : (n : Int) < i
                · exact past_SS a b n ca cb i (by omega) c5 Lo Hi x cl cc zl hcl hl1 hl2 y dl dc zh hdl hh1 hh2 w hx hy hn hl3 hh3
                · obtain ⟨I, rfl⟩ := Int.eq_ofNat_of_zero_le (show 0 ≤ i by omega)
                  exact walk_SS a b n ca cb I (by omega) Lo Hi x cl cc zl hcl hl1 hl2 y dl dc zh hdl hh1 hh2 w hx hy hn hl3 hh3
        · exact out_differ a b c d n m ca cb cl cc dl dc i Lo Hi w hx hy (by omega) (by omega) (by simp; omega)
  · exact out_long a b c d n m ca cb cl cc dl dc i Lo Hi w hx hy c0

/-- A [][]byte opened: the walk's 'Holds2'. -/
theorem holds_of {H : Type} {enc : TypeId × Value → H} {W : World} {a : Option Addr} {len cap : Nat} {fuel : Nat} {spare : Nat → Bool} {held : Bool} {x : DataW H × List MemPlace}
    (h : DataW.trod enc Try.prog W 0 spare held fuel 28 [.slice a len cap] = some x) : ∃ L, Holds2 W a len cap L := by
  rcases Deep.open_slice1 Try.underlying28 cells22 h with ⟨hcs, _⟩ | ⟨ad, len', cap', m, n, V, D, Pl, hcs, _, hl, _, hm, _, hV⟩
  · simp at hcs
    obtain ⟨rfl, rfl, rfl⟩ := hcs
    exact ⟨[], rfl, Nat.le_refl _, fun _ => ⟨rfl, rfl⟩, fun x e => by cases e⟩
  · simp at hcs
    obtain ⟨rfl, rfl, rfl⟩ := hcs
    have hlm : len ≤ m := by rw [hm]; split <;> omega
    have hT : ∀ i, i < len → ∃ t, V i = sv t := by
      intro i hi
      obtain ⟨_, h2⟩ := hV i (by omega)
      rcases Deep.open_slice1 Try.underlying22 cells5 h2 with ⟨hcs, _⟩ | ⟨ad', l, c, _, _, _, _, _, hcs, _⟩
      · simp at hcs
        exact ⟨(none, 0, 0), hcs⟩
      · simp at hcs
        exact ⟨(some ad', l, c), hcs⟩
    refine ⟨(List.range len).map fun i => if h : i < len then (hT i h).choose else d0, by simp, hl, (fun e => by cases e), fun x e j hj => ?_⟩
    obtain rfl := Option.some.inj e
    rw [(hV j (by omega)).1]
    have hs := (hT j hj).choose_spec
    simp only [List.getD, List.getElem?_map, List.getElem?_range, hj, Option.map_some, Option.getD_some, dif_pos]
    simpa [hj] using hs

/-- A []byte opened. -/
theorem row_of {H : Type} {enc : TypeId × Value → H} {W : World} {a : Option Addr} {len cap : Nat} {d : DataW H} {p : List MemPlace}
    (h : DataW.Trod enc Try.prog W 0 (fun _ => true) true 22 (.slice a len cap) d p) : ∃ zs, IsRow .u8 W a len cap zs := by
  obtain ⟨fuel, hf⟩ := h
  rcases open_ints Try.underlying22 Try.underlying5 (by kernel_rfl) hf with ⟨hcs, _⟩ | ⟨x, l, c, zs, hcs, _, hl, hm, hz, _, hcell, hwz⟩
  · simp [Value.cells] at hcs
    obtain ⟨rfl, rfl, rfl⟩ := hcs
    exact ⟨[], .inl ⟨rfl, rfl, rfl, rfl⟩⟩
  · simp [Value.cells] at hcs
    obtain ⟨rfl, rfl, rfl⟩ := hcs
    exact ⟨zs, .inr ⟨_, rfl, hl, hm, by simpa using hz, hcell, hwz⟩⟩

set_option maxRecDepth 100000 in
theorem lifted (os : Os) (started : os.Started) (H : Type) (enc : TypeId × Value → H) :
    ReturnsInHanded {} Try.checked os 6 .any (Rows.fnOverlaysSizeInsertSpec.pre6 enc Try.prog Try.f6 Rows.fnOverlaysSizeInsertRow.domain false) (Rows.fnOverlaysSizeInsertSpec.post enc Try.prog Try.f6 false true false false) := by
  refine returnsInHanded_of_change (C := Try.checked) own started (by kernel_rfl) Try.func6
    (ChangeSpec.witness6 (enc := enc) (C := Try.checked) false ⟨#[], #[.slice none 0 0, .slice none 0 0, .int .i64 0, .slice none 0 0, .slice none 0 0], []⟩ 8 (by kernel_rfl) (by kernel_rfl) (by kernel_rfl) (by kernel_rfl)) ?_
  intro W base args ds gs before hval0 hW hcnd _
  have hval : ∀ (j : Nat) t v, Try.f6.params[j]? = some t → args[j]? = some v → Value.okWide Try.prog W .any base t v := hval0
  have hW' := hW
  obtain ⟨p, q, hA0, hV, rfl, hfz, hnd⟩ := hW
  have hA : DataW.TrodAll enc Try.prog W 0 (fun _ => true) true Try.f6.params.toList args.toList ds p := hA0
  rw [Try.params6] at hA hval
  obtain ⟨v0, vs0, d0, ds0, p0, q0, hargs, rfl, rfl, h0, r0⟩ := trodAll_cons hA
  obtain ⟨v1, vs1, d1, ds1, p1, q1, rfl, rfl, rfl, h1, r1⟩ := trodAll_cons r0
  obtain ⟨v2, vs2, d2, ds2, p2, q2, rfl, rfl, rfl, h2, r2⟩ := trodAll_cons r1
  obtain ⟨v3, vs3, d3, ds3, p3, q3, rfl, rfl, rfl, h3, r3⟩ := trodAll_cons r2
  obtain ⟨v4, vs4, d4, ds4, p4, q4, rfl, rfl, rfl, h4, r4⟩ := trodAll_cons r3
  obtain ⟨rfl, rfl, rfl⟩ := trodAll_nil r4
  obtain rfl : args = #[v0, v1, v2, v3, v4] := by cases args; simp_all
  obtain ⟨rfl, rfl⟩ := trodVars_none hV
  obtain ⟨a0, len0, cap0, rfl⟩ := okWide_slice Try.underlying28 (hval 0 28 v0 rfl rfl)
  obtain ⟨a1, len1, cap1, rfl⟩ := okWide_slice Try.underlying28 (hval 1 28 v1 rfl rfl)
  obtain ⟨a2, rfl, rfl, rfl, w2⟩ := open_int Try.underlying3 (hval 2 3 v2 rfl rfl) h2
  obtain ⟨a3, len3, cap3, rfl⟩ := okWide_slice Try.underlying22 (hval 3 22 v3 rfl rfl)
  obtain ⟨a4, len4, cap4, rfl⟩ := okWide_slice Try.underlying22 (hval 4 22 v4 rfl rfl)
  have lt0 : ∀ x ∈ p0, x.block < W.heap.size := by obtain ⟨m, hm⟩ := h0; exact DataW.trod_lt m _ _ _ hm
  have lt1 : ∀ x ∈ p1, x.block < W.heap.size := by obtain ⟨m, hm⟩ := h1; exact DataW.trod_lt m _ _ _ hm
  have lt3 : ∀ x ∈ p3, x.block < W.heap.size := by obtain ⟨m, hm⟩ := h3; exact DataW.trod_lt m _ _ _ hm
  have lt4 : ∀ x ∈ p4, x.block < W.heap.size := by obtain ⟨m, hm⟩ := h4; exact DataW.trod_lt m _ _ _ hm
  obtain ⟨Lo, g0⟩ : ∃ L, Holds2 W a0 len0 cap0 L := by obtain ⟨m, hm⟩ := h0; exact holds_of hm
  obtain ⟨Hi, g1⟩ : ∃ L, Holds2 W a1 len1 cap1 L := by obtain ⟨m, hm⟩ := h1; exact holds_of hm
  obtain ⟨z3, g3⟩ := row_of h3
  obtain ⟨z4, g4⟩ := row_of h4
  clear hA0 hval0
  refine (walk a0 a1 a3 a4 len0 len1 cap0 cap1 len3 cap3 len4 cap4 a2 Lo Hi z3 z4 W g0 g1 g3 g4).mono fun e W' ⟨he, bel⟩ => ?_
  subst he
  exact ⟨_, rfl, _, _, _, [], _, [], hW', trodAll_mk1 (shut_bool Try.underlying4 _), (trodAll_cons_mk (Below.trod laidOut (by kernel_rfl) (of_decide_eq_true (by kernel_rfl)) h0 bel lt0) (trodAll_cons_mk (Below.trod laidOut (by kernel_rfl) (of_decide_eq_true (by kernel_rfl)) h1 bel lt1) (trodAll_cons_mk (shut_int Try.underlying3 w2) (trodAll_cons_mk (Below.trod laidOut (by kernel_rfl) (of_decide_eq_true (by kernel_rfl)) h3 bel lt3) (trodAll_cons_mk (Below.trod laidOut (by kernel_rfl) (of_decide_eq_true (by kernel_rfl)) h4 bel lt4) trodAll_mk0))))), rfl, bel.frame _, fun h => by cases h⟩

theorem over : Rows.fnOverlaysSizeInsertRow.holds Try.pinned (OpenSpec.ofChange Rows.fnOverlaysSizeInsertSpec) :=
  OpenClaim.holds_of_wide 6 Try.f6 rfl rfl rfl rfl rfl rfl rfl ⟨rfl, rfl, rfl, rfl, rfl⟩ rfl rfl rfl rfl rfl (by kernel_rfl) Try.func6 (by kernel_rfl)
    (of_decide_eq_true (by kernel_rfl)) (by unfold Func.isWrapper; first | (rw [if_pos (by decide +kernel)]; kernel_rfl) | (rw [if_neg (by decide +kernel)]; exact ⟨rfl, rfl⟩))
    (fun os started H enc _ => lifted os started H enc)

/-- THE STATEMENT. -/
theorem proved : Rows.FnOverlaysSizeInsertSaid := over
end Go.Proofs.Qxb6615877a.fnOverlaysSizeInsert
