/-
  DERIVED. GIVEN WITH THE SEED: THE CARDS: each row of Qxb6615019aDoorRows.lean that lists a variable, with what it lists TIED to the program's text (the seventh form; the later family's looks); each row that meets fmt, with fmt's text TOLD by the authors' own Lean function (tested against real Go, not proved from fmt's source: count such statements apart). THE CARD IS WHAT COUNTS. Prove the row's statement (the work); the ties are given (Qxb6615019aDoorTie.lean); close each card by the builder's one call (the guide's Derived/Test/ToyasCard.lean, 'card_holds'). Laid BY PROGRAM, IN A SANDBOX (cutbox-door.mjs). By AI agents, Wed Nov 11 2026. No macro, syntax, notation, axiom, sorry.
-/
import Derived.Test.Qxb6615019aDoorRows
import GoSem.ClaimSeven
namespace Go.Proofs.Qxb6615019aDoor
namespace Rows

/-- THE TIED CARD OF 'zzlaws_internal_peers_b1.FnValidPortDecimalOfIntegers'. -/
def fnValidPortDecimalOfIntegersCard : Claim7 := { stood := { row := fnValidPortDecimalOfIntegersRow, standIns := [], harness := (true, "fec347b34c7ea31fb627f23a393a180f0d6d0fa94f00387435084c296ee935a6"), looks := true }, kinds := [], alts := [], laidByText := true, laidKinds := [.data, .data, .data, .sentinel, .sentinel], laidTests := true, laidLooks := .later }
def FnValidPortDecimalOfIntegersCardSaid : Prop := Claim7.holds Tryd.pinned (.plain (OpenSpec.ofChange fnValidPortDecimalOfIntegersSpec)) fnValidPortDecimalOfIntegersCard
end Rows
end Go.Proofs.Qxb6615019aDoor
