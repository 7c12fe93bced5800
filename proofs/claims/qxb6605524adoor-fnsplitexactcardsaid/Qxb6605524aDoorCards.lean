/-
  DERIVED. GIVEN WITH THE SEED: THE CARDS: each row of Qxb6605524aDoorRows.lean that lists a variable, with what it lists TIED to the program's text (the seventh form; the later family's looks); each row that meets fmt, with fmt's text TOLD by the authors' own Lean function (tested against real Go, not proved from fmt's source: count such statements apart). THE CARD IS WHAT COUNTS. Prove the row's statement (the work); the ties are given (Qxb6605524aDoorTie.lean); close each card by the builder's one call (the guide's Derived/Test/ToyasCard.lean, 'card_holds'). Laid BY PROGRAM, IN A SANDBOX (cutbox-door.mjs). By AI agents, Wed Nov 11 2026. No macro, syntax, notation, axiom, sorry.
-/
import Derived.Test.Qxb6605524aDoorRows
import GoSem.ClaimSeven
namespace Go.Proofs.Qxb6605524aDoor
namespace Rows

/-- THE TIED CARD OF 'zzlaws_physical_b1.FnSplitExact'. -/
def fnSplitExactCard : Claim7 := { stood := { row := fnSplitExactRow, standIns := [], harness := (true, "0d710d9a15160d1feacf2a799f366279d015bb82e74f851b59747fb9b6444f83"), looks := true }, kinds := [], alts := [], laidByText := true, laidKinds := [.data, .data, .data, .sentinel, .sentinel], laidTests := true, laidLooks := .later }
def FnSplitExactCardSaid : Prop := Claim7.holds Tryd.pinned (.plain (OpenSpec.ofChange fnSplitExactSpec)) fnSplitExactCard
end Rows
end Go.Proofs.Qxb6605524aDoor
