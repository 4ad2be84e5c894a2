/-
  The row and the tied card of FnValidPortDecimalOfIntegers, proved.
-/
import Derived.Test.Qxb6615019aDoorRows
import Derived.Test.Qxb6615019aDoorTie
import Derived.Test.Qxb6615019aDoorCards
import Derived.Test.Qxb6615019aDoorLaw
import Derived.ProofKit
import Derived.LaidMore
import Derived.LaidLaws
import Derived.OpenShut
import Derived.Stop.Joined
import Derived.Stop.LaidErr
import Derived.SevenTiedAt
namespace Go.Proofs.Qxb6615019aDoor
open Go Go.ChangeShapes Go.WideShapes Go.ChangeAt Go.RowKit

theorem own : ownKnob Tryd.prog.godebug = none := by kernel_rfl
theorem gSyn : Tryd.prog.globalNamed "strconv.ErrSyntax" = some 0 := by kernel_rfl
theorem gRng : Tryd.prog.globalNamed "strconv.ErrRange" = some 1 := by kernel_rfl
theorem tSyn : (Tryd.prog.globals[0]?).map (·.type) = some 29 := by kernel_rfl
theorem tRng : (Tryd.prog.globals[1]?).map (·.type) = some 29 := by kernel_rfl

/-- The door's own heap meets the condition. -/
theorem door_met (os : Os) (args : Array Value) : laidMetH Tryd.prog Rows.fnValidPortDecimalOfIntegersRow.laid ((World.doorLaid Tryd.prog 62 os).forCall (fun _ _ => 0) ⟨#[], args, []⟩).memory :=
  laidMetH_of_parts3 (fuel := 8) (laidMet_of_run' 8 (by kernel_rfl) (by kernel_rfl)) (by kernel_rfl) (by kernel_rfl)

/-- The name of a datum's dynamic type. -/
def nmOf {H : Type} : DataW H → String
  | .iface nm _ => nm
  | _ => ""
theorem cells47 : Tryd.prog.cellsOf 47 = 1 := by kernel_rfl
theorem cells9 : Tryd.prog.cellsOf 9 = 1 := by kernel_rfl
theorem rowErr (u : TypeId) (h : Tryd.prog.typeName? 3 u = some (nmOf (Rows.laid_strconv_ErrRange (H := Unit)))) : u = 45 :=
  typeName_ptr_named (P := Tryd.prog) (nm := "errors.errorString") (tp := 45) (by kernel_rfl) (by kernel_rfl) (by decide) u (h.trans (congrArg some (by decide)))

/-- WHAT THE CONDITION GIVES THE WALK: both variables hold interface values. -/
theorem errs_of_laid {W : World} (h : laidMetH Tryd.prog Rows.fnValidPortDecimalOfIntegersRow.laid W) : Errs W := by
  rw [MakeChecks.laidMetH_plain _ _ _ (by kernel_rfl)] at h
  have h3 := h.tail.tail.tail
  have h4 := h3.tail
  obtain ⟨a1, s1, hv1, _⟩ := laid_sentinel h3 gRng tRng Tryd.underlying29 rowErr Tryd.underlying45 Tryd.underlying47 rfl rfl Tryd.underlying9 cells47 cells9
  obtain ⟨a0, s0, hv0, _⟩ := laid_sentinel h4 gSyn tSyn Tryd.underlying29 rowErr Tryd.underlying45 Tryd.underlying47 rfl rfl Tryd.underlying9 cells47 cells9
  refine ⟨⟨45, .pointer (some a0), ?_⟩, 45, .pointer (some a1), ?_⟩
  · have := World.var?_cell gSyn hv0 0
    simpa using this
  · have := World.var?_cell gRng hv1 0
    simpa using this

set_option maxRecDepth 100000 in
theorem lifted (os : Os) (started : os.Started) (H : Type) (enc : TypeId × Value → H) :
    ReturnsInHanded {} Tryd.checked os 3 .any (fun w args => (Rows.fnValidPortDecimalOfIntegersSpec.pre enc Tryd.prog Tryd.f3 [] false w args ∧ laidMetH Tryd.prog Rows.fnValidPortDecimalOfIntegersRow.laid w) ∧ sizedMet enc Tryd.prog Tryd.f3 (OpenSpec.ofChange Rows.fnValidPortDecimalOfIntegersSpec) false w args)
      (Rows.fnValidPortDecimalOfIntegersSpec.post enc Tryd.prog Tryd.f3 false true false false) := by
  refine returnsInHanded_of_change_and (C := Tryd.checked) (X := fun w _ => laidMetH Tryd.prog Rows.fnValidPortDecimalOfIntegersRow.laid w) (fun _ _ _ hh h => h.of_heap hh) own started (by kernel_rfl) Tryd.func3
    (ChangeSpec.witness_shaped (enc := enc) (C := Tryd.checked) (os := os) (X := fun w _ => laidMetH Tryd.prog Rows.fnValidPortDecimalOfIntegersRow.laid w) false (World.doorLaid Tryd.prog 62 os) #[.int .i64 0, .int .i64 0] 8 rfl (World.shaped_of_RefB (by kernel_rfl) (by kernel_rfl)) (by kernel_rfl) (by kernel_rfl) (by kernel_rfl) (door_met os _)) ?_
  intro W base args ds gs before hval0 hW _ _ hL _
  have hval : ∀ (j : Nat) t v, Tryd.f3.params[j]? = some t → args[j]? = some v → Value.okWide Tryd.prog W .any base t v := hval0
  have hW' := hW
  obtain ⟨p, q, hA0, hV, rfl, hfz, hnd⟩ := hW
  have hA : DataW.TrodAll enc Tryd.prog W 0 (fun _ => true) true Tryd.f3.params.toList args.toList ds p := hA0
  rw [Tryd.params3] at hA hval
  obtain ⟨v0, v1, d0, d1, p0, p1, rfl, rfl, rfl, h0, h1⟩ := trodAll_two hA
  obtain ⟨rfl, rfl⟩ := trodVars_none hV
  obtain ⟨n, rfl, rfl, rfl, wn⟩ := open_int Tryd.underlying2 (hval 0 2 v0 rfl rfl) h0
  obtain ⟨z, rfl, rfl, rfl, wz⟩ := open_int Tryd.underlying3 (hval 1 3 v1 rfl rfl) h1
  have he := errs_of_laid hL
  obtain ⟨b0, b1⟩ := bounds_i64 wn
  clear hA0 hval0 hL
  simp only [List.append_nil] at hW'
  refine (walk n z b0 b1 W he).mono fun e W' ⟨hee, bel⟩ => ?_
  subst hee
  exact ⟨_, rfl, _, _, _, [], [], [], hW', trodAll_mk1 (shut_bool Tryd.underlying4 _), trodAll_mk2 (shut_int Tryd.underlying2 wn) (shut_int Tryd.underlying3 wz), rfl, bel.frame _, fun h => by cases h⟩

theorem row_holds : Rows.FnValidPortDecimalOfIntegersSaid :=
  OpenClaim.holds_of_wide 3 Tryd.f3 rfl rfl rfl rfl rfl rfl rfl ⟨rfl, rfl, rfl, rfl, rfl⟩ rfl rfl rfl rfl rfl (by kernel_rfl) Tryd.func3 (by kernel_rfl)
    (of_decide_eq_true (by kernel_rfl)) (by unfold Func.isWrapper; first | (rw [if_pos (by decide +kernel)]; kernel_rfl) | (rw [if_neg (by decide +kernel)]; exact ⟨rfl, rfl⟩))
    (fun os started H enc _ => lifted os started H enc)

/-- THE TIED CARD. -/
theorem card_holds : Rows.FnValidPortDecimalOfIntegersCardSaid :=
  Claim7.holds_tied_plain_at .later [] [.data, .data, .data, .sentinel, .sentinel] true (true, "fec347b34c7ea31fb627f23a393a180f0d6d0fa94f00387435084c296ee935a6") true
    row_holds (fun _ h => by cases h) (by kernel_rfl) (fun _ h => by cases h) fnValidPortDecimalOfIntegers_row_tie rfl ⟨rfl, rfl⟩ (by kernel_rfl) rfl
    (fun f fn hf hfn => by
      obtain rfl : f = 3 := Option.some.inj ((show Tryd.prog.funcNamed Rows.fnValidPortDecimalOfIntegersRow.func = some 3 by kernel_rfl).symm.trans hf) |>.symm
      obtain rfl : fn = Tryd.f3 := (Option.some.inj (Tryd.func3.symm.trans hfn)).symm
      exact ⟨by kernel_rfl, fun j t ht => by
        rw [Tryd.params3] at ht
        have hm : t ∈ [2, 3] := by simpa using Array.mem_of_getElem? ht
        have hall : ([2, 3].all fun u => !Tryd.prog.wantsStandIn u) = true := by kernel_rfl
        exact (show Tryd.prog.wantsStandIn t = false by simpa using List.all_eq_true.1 hall t hm)⟩)
    (by kernel_rfl)
end Go.Proofs.Qxb6615019aDoor
