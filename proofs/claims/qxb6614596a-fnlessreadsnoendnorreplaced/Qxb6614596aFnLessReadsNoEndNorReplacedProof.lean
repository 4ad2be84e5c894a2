/-
  The law FnLessReadsNoEndNorReplaced, proved: the frame after the kit's shells, turned to a slice of structs and two integers.
-/
import Derived.Test.Qxb6614596aRows
import Derived.Test.Qxb6614596aMain
import Derived.WalkKit
import Derived.ProofKit
import Derived.OpenShut
import Derived.ChangeOld
import Derived.Below
import Derived.Deep.Slices
namespace Go.Proofs.Qxb6614596a.fnLessReadsNoEndNorReplaced
open Go.ChangeShapes Go.WideShapes Go.ChangeAt Go.RowKit
set_option linter.unusedVariables false

theorem own : ownKnob Try.prog.godebug = none := by kernel_rfl
theorem laidOut : laidOutB Try.prog = true := by kernel_rfl
theorem cells34 : Try.prog.cellsOf 34 = 8 := by kernel_rfl
theorem cells32 : Try.prog.cellsOf 32 = 1 := by kernel_rfl
theorem cells3 : Try.prog.cellsOf 3 = 1 := by kernel_rfl
theorem cells4 : Try.prog.cellsOf 4 = 1 := by kernel_rfl
theorem cells5 : Try.prog.cellsOf 5 = 1 := by kernel_rfl

/-- The three byte fields of a piece lie within a byte. -/
def Byt (p : PC) : Prop := (0 ≤ p.li ∧ p.li ≤ 255) ∧ (0 ≤ p.fi ∧ p.fi ≤ 255) ∧ (0 ≤ p.su ∧ p.su ≤ 255)

section
variable {H : Type} {enc : TypeId × Value → H} {W : World} {spare : Nat → Bool} {held : Bool}

theorem float_of {t : TypeId} {k : FloatKind} {fuel : Nat} {cs : List Value} {x : DataW H × List MemPlace} (ht : Try.prog.underlying t = some (.float k))
    (h : DataW.trod enc Try.prog W 0 spare held fuel t cs = some x) : ∃ n, cs = [.float k n] := by
  cases fuel with
  | zero => simp [DataW.trod] at h
  | succ n =>
    unfold DataW.trod at h
    rw [ht] at h
    split at h <;> simp_all

theorem byte_of {n : Int} (h : (Lit.int .u8 n).wf = true) : 0 ≤ n ∧ n ≤ 255 := by
  simpa [Lit.wf, IntKind.has, IntKind.min, IntKind.max, IntKind.signed, IntKind.bits] using h

theorem list8 {α : Type} {l : List α} (h : l.length = 8) : ∃ c0 c1 c2 c3 c4 c5 c6 c7, l = [c0, c1, c2, c3, c4, c5, c6, c7] := by
  match l, h with
  | [c0, c1, c2, c3, c4, c5, c6, c7], _ => exact ⟨c0, c1, c2, c3, c4, c5, c6, c7, rfl⟩

/-- A PieceB1 opened. -/
theorem piece_of {fuel : Nat} {cs : List Value} {x : DataW H × List MemPlace} (h : DataW.trod enc Try.prog W 0 spare held fuel 34 cs = some x) : ∃ p : PC, cs = p.cells ∧ Byt p := by
  obtain ⟨xs, n, _, rfl, hl, hlen, hf⟩ := DataW.trod_struct Try.underlying34 h
  rw [cells34] at hl
  obtain ⟨c0, c1, c2, c3, c4, c5, c6, c7, rfl⟩ := list8 hl
  obtain ⟨y0, y1, y2, y3, y4, y5, y6, y7, rfl⟩ := list8 hlen
  have h0 : DataW.trod enc Try.prog W 0 spare held n 32 ((List.drop 0 [c0, c1, c2, c3, c4, c5, c6, c7]).take (Try.prog.cellsOf 32)) = some y0 := by have t := hf 0 _ rfl; exact t
  rw [cells32] at h0
  change DataW.trod enc Try.prog W 0 spare held n 32 [c0] = some y0 at h0
  have h1 : DataW.trod enc Try.prog W 0 spare held n 32 ((List.drop 1 [c0, c1, c2, c3, c4, c5, c6, c7]).take (Try.prog.cellsOf 32)) = some y1 := by have t := hf 1 _ rfl; exact t
  rw [cells32] at h1
  change DataW.trod enc Try.prog W 0 spare held n 32 [c1] = some y1 at h1
  have h2 : DataW.trod enc Try.prog W 0 spare held n 3 ((List.drop 2 [c0, c1, c2, c3, c4, c5, c6, c7]).take (Try.prog.cellsOf 3)) = some y2 := by have t := hf 2 _ rfl; exact t
  rw [cells3] at h2
  change DataW.trod enc Try.prog W 0 spare held n 3 [c2] = some y2 at h2
  have h3 : DataW.trod enc Try.prog W 0 spare held n 3 ((List.drop 3 [c0, c1, c2, c3, c4, c5, c6, c7]).take (Try.prog.cellsOf 3)) = some y3 := by have t := hf 3 _ rfl; exact t
  rw [cells3] at h3
  change DataW.trod enc Try.prog W 0 spare held n 3 [c3] = some y3 at h3
  have h4 : DataW.trod enc Try.prog W 0 spare held n 5 ((List.drop 4 [c0, c1, c2, c3, c4, c5, c6, c7]).take (Try.prog.cellsOf 5)) = some y4 := by have t := hf 4 _ rfl; exact t
  rw [cells5] at h4
  change DataW.trod enc Try.prog W 0 spare held n 5 [c4] = some y4 at h4
  have h5 : DataW.trod enc Try.prog W 0 spare held n 5 ((List.drop 5 [c0, c1, c2, c3, c4, c5, c6, c7]).take (Try.prog.cellsOf 5)) = some y5 := by have t := hf 5 _ rfl; exact t
  rw [cells5] at h5
  change DataW.trod enc Try.prog W 0 spare held n 5 [c5] = some y5 at h5
  have h6 : DataW.trod enc Try.prog W 0 spare held n 5 ((List.drop 6 [c0, c1, c2, c3, c4, c5, c6, c7]).take (Try.prog.cellsOf 5)) = some y6 := by have t := hf 6 _ rfl; exact t
  rw [cells5] at h6
  change DataW.trod enc Try.prog W 0 spare held n 5 [c6] = some y6 at h6
  have h7 : DataW.trod enc Try.prog W 0 spare held n 4 ((List.drop 7 [c0, c1, c2, c3, c4, c5, c6, c7]).take (Try.prog.cellsOf 4)) = some y7 := by have t := hf 7 _ rfl; exact t
  rw [cells4] at h7
  change DataW.trod enc Try.prog W 0 spare held n 4 [c7] = some y7 at h7
  obtain ⟨a0, e0⟩ := float_of Try.underlying32 h0
  obtain ⟨a1, e1⟩ := float_of Try.underlying32 h1
  obtain ⟨a2, e2, _, _⟩ := DataW.trod_int Try.underlying3 h2
  obtain ⟨a3, e3, _, _⟩ := DataW.trod_int Try.underlying3 h3
  obtain ⟨a4, e4, _, w4⟩ := DataW.trod_int Try.underlying5 h4
  obtain ⟨a5, e5, _, w5⟩ := DataW.trod_int Try.underlying5 h5
  obtain ⟨a6, e6, _, w6⟩ := DataW.trod_int Try.underlying5 h6
  obtain ⟨a7, e7, _⟩ := DataW.trod_bool Try.underlying4 h7
  simp only [List.cons.injEq, and_true] at e0 e1 e2 e3 e4 e5 e6 e7
  subst e0 e1 e2 e3 e4 e5 e6 e7
  exact ⟨⟨a0, a1, a2, a3, a4, a5, a6, a7⟩, rfl, byte_of w4, byte_of w5, byte_of w6⟩

/-- A []PieceB1 opened: empty, or its pieces lie in one block. -/
theorem src_of {a : Option Addr} {len cap : Nat} {fuel : Nat} {x : DataW H × List MemPlace} (h : DataW.trod enc Try.prog W 0 spare held fuel 30 [.slice a len cap] = some x) :
    len = 0 ∨ ∃ b o G, a = some ⟨b, o, none⟩ ∧ len ≤ cap ∧ b < W.heap.size ∧ Src W b o len G ∧ ∀ i, i < len → Byt (G i) := by
  rcases Deep.open_slice Try.underlying30 h with ⟨hcs, _⟩ | ⟨ad, len', cap', m, n, D, Pl, hcs, _, hl, _, hm, _, hV⟩
  · simp at hcs
    exact .inl hcs.2.1
  · simp at hcs
    obtain ⟨rfl, rfl, rfl⟩ := hcs
    have hlm : len ≤ m := by rw [hm]; split <;> omega
    by_cases h0 : len = 0
    · exact .inl h0
    right
    have hP : ∀ i, i < len → ∃ p : PC, (∀ c, c < 8 → W.cell? ((ad.add (i * 8)).add c) = p.cells[c]?) ∧ Byt p := by
      intro i hi
      obtain ⟨cs', h1, h2⟩ := hV i (by omega)
      rw [cells34] at h1
      obtain ⟨p, rfl, hb⟩ := piece_of h2
      exact ⟨p, (World.cells?_some h1).2.2, hb⟩
    obtain ⟨p0, hp0, _⟩ := hP 0 (by omega)
    have hc0 : W.cell? ad = some (.float .f64 p0.it) := by simpa [Addr.add, PC.cells] using hp0 0 (by omega)
    have hs0 := World.cell?_spot hc0
    obtain ⟨b, o, s⟩ := ad
    simp only at hs0
    subst hs0
    have hb : b < W.heap.size := by
      have := hc0
      unfold World.cell? at this
      by_cases hb : b < W.heap.size
      · exact hb
      · simp [Array.getElem?_eq_none (Nat.le_of_not_lt hb)] at this
    refine ⟨b, o, fun i => if h : i < len then (hP i h).choose else p0, rfl, hl, hb, ?_, ?_⟩
    · intro i c hi hc
      have hs := (hP i hi).choose_spec.1 c hc
      simp only [dif_pos hi]
      rw [← hs]
      congr 1
      unfold Addr.add
      by_cases z : i = 0
      · subst z
        by_cases y : c = 0
        · subst y; simp
        · simp [y]
      · have z8 : ¬ i * 8 = 0 := by omega
        by_cases y : c = 0
        · subst y; simp only [if_neg z8, if_pos]; simp
        · simp only [if_neg z8, if_neg y]
    · intro i hi
      simp only [dif_pos hi]
      exact (hP i hi).choose_spec.2
end

theorem walk (a : Option Addr) (n cap : Nat) (i j : Int) (w : World) (hs : n = 0 ∨ ∃ b o G, a = some ⟨b, o, none⟩ ∧ n ≤ cap ∧ b < w.heap.size ∧ Src w b o n G ∧ ∀ i, i < n → Byt (G i)) :
    Calls Try.prog 5 #[.slice a n cap, .int .i64 i, .int .i64 j] w fun e w' => e = .returned (.bool true) ∧ Below w.heap.size w w' := by
  by_cases c0 : 1048576 < n
  · exact out_long a n cap i j c0 w
  by_cases c1 : 16384 < n
  · exact out_many a n cap i j (by omega) c1 w
  by_cases c2 : i < 0
  · exact out_1 a n cap i j (by omega) c2 w
  by_cases c3 : (n : Int) ≤ i
  · exact out_2 a n cap i j (by omega) (by omega) c3 w
  by_cases c4 : j < 0
  · exact out_3 a n cap i j (by omega) (by omega) (by omega) c4 w
  by_cases c5 : (n : Int) ≤ j
  · exact out_4 a n cap i j (by omega) (by omega) (by omega) (by omega) c5 w
  obtain ⟨I, rfl⟩ := Int.eq_ofNat_of_zero_le (show 0 ≤ i by omega)
  obtain ⟨J, rfl⟩ := Int.eq_ofNat_of_zero_le (show 0 ≤ j by omega)
  rcases hs with rfl | ⟨b, o, G, rfl, hc, hb, hS, hu⟩
  · exact absurd c3 (by omega)
  · exact main b o n cap I J G (by omega) hc (by omega) (by omega) w hb hS hu

set_option maxRecDepth 100000 in
theorem lifted (os : Os) (started : os.Started) (H : Type) (enc : TypeId × Value → H) :
    ReturnsInHanded {} Try.checked os 5 .any (Rows.fnLessReadsNoEndNorReplacedSpec.pre6 enc Try.prog Try.f5 Rows.fnLessReadsNoEndNorReplacedRow.domain false) (Rows.fnLessReadsNoEndNorReplacedSpec.post enc Try.prog Try.f5 false true false false) := by
  refine returnsInHanded_of_change (C := Try.checked) own started (by kernel_rfl) Try.func5
    (ChangeSpec.witness6 (enc := enc) (C := Try.checked) false ⟨#[], #[.slice none 0 0, .int .i64 0, .int .i64 0], []⟩ 8 (by kernel_rfl) (by kernel_rfl) (by kernel_rfl) (by kernel_rfl)) ?_
  intro W base args ds gs before hval0 hW hcnd _
  have hval : ∀ (j : Nat) t v, Try.f5.params[j]? = some t → args[j]? = some v → Value.okWide Try.prog W .any base t v := hval0
  have hW' := hW
  obtain ⟨p, q, hA0, hV, rfl, hfz, hnd⟩ := hW
  have hA : DataW.TrodAll enc Try.prog W 0 (fun _ => true) true Try.f5.params.toList args.toList ds p := hA0
  rw [Try.params5] at hA hval
  obtain ⟨v0, vs0, d0, ds0, p0, q0, hargs, rfl, rfl, h0, r0⟩ := trodAll_cons hA
  obtain ⟨v1, vs1, d1, ds1, p1, q1, rfl, rfl, rfl, h1, r1⟩ := trodAll_cons r0
  obtain ⟨v2, vs2, d2, ds2, p2, q2, rfl, rfl, rfl, h2, r2⟩ := trodAll_cons r1
  obtain ⟨rfl, rfl, rfl⟩ := trodAll_nil r2
  obtain rfl : args = #[v0, v1, v2] := by cases args; simp_all
  obtain ⟨rfl, rfl⟩ := trodVars_none hV
  obtain ⟨a0, len0, cap0, rfl⟩ := okWide_slice Try.underlying30 (hval 0 30 v0 rfl rfl)
  obtain ⟨a1, rfl, rfl, rfl, w1⟩ := open_int Try.underlying3 (hval 1 3 v1 rfl rfl) h1
  obtain ⟨a2, rfl, rfl, rfl, w2⟩ := open_int Try.underlying3 (hval 2 3 v2 rfl rfl) h2
  have lt0 : ∀ x ∈ p0, x.block < W.heap.size := by obtain ⟨m, hm⟩ := h0; exact DataW.trod_lt m _ _ _ hm
  have g0 : len0 = 0 ∨ ∃ b o G, a0 = some ⟨b, o, none⟩ ∧ len0 ≤ cap0 ∧ b < W.heap.size ∧ Src W b o len0 G ∧ ∀ i, i < len0 → Byt (G i) := by obtain ⟨m, hm⟩ := h0; exact src_of hm
  clear hA0 hval0
  refine (walk a0 len0 cap0 a1 a2 W g0).mono fun e W' ⟨he, bel⟩ => ?_
  subst he
  exact ⟨_, rfl, _, _, _, [], _, [], hW', trodAll_mk1 (shut_bool Try.underlying4 _), (trodAll_cons_mk (Below.trod laidOut (by kernel_rfl) (of_decide_eq_true (by kernel_rfl)) h0 bel lt0) (trodAll_cons_mk (shut_int Try.underlying3 w1) (trodAll_cons_mk (shut_int Try.underlying3 w2) trodAll_mk0))), rfl, bel.frame _, fun h => by cases h⟩

theorem over : Rows.fnLessReadsNoEndNorReplacedRow.holds Try.pinned (OpenSpec.ofChange Rows.fnLessReadsNoEndNorReplacedSpec) :=
  OpenClaim.holds_of_wide 5 Try.f5 rfl rfl rfl rfl rfl rfl rfl ⟨rfl, rfl, rfl, rfl, rfl⟩ rfl rfl rfl rfl rfl (by kernel_rfl) Try.func5 (by kernel_rfl)
    (of_decide_eq_true (by kernel_rfl)) (by unfold Func.isWrapper; first | (rw [if_pos (by decide +kernel)]; kernel_rfl) | (rw [if_neg (by decide +kernel)]; exact ⟨rfl, rfl⟩))
    (fun os started H enc _ => lifted os started H enc)

/-- THE STATEMENT. -/
theorem proved : Rows.FnLessReadsNoEndNorReplacedSaid := over
end Go.Proofs.Qxb6614596a.fnLessReadsNoEndNorReplaced
