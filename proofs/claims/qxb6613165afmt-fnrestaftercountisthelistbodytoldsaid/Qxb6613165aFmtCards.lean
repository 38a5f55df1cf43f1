/-
  DERIVED. GIVEN WITH THE SEED: THE CARDS: each row of Qxb6613165aFmtRows.lean that lists a variable, with what it lists TIED to the program's text (the seventh form; the later family's looks); each row that meets fmt, with fmt's text TOLD by the authors' own Lean function (tested against real Go, not proved from fmt's source: count such statements apart). THE CARD IS WHAT COUNTS. Prove the row's statement (the work); the ties are given (Qxb6613165aFmtTie.lean); close each card by the builder's one call (the guide's Derived/Test/ToyasCard.lean, 'card_holds'). Laid BY PROGRAM, IN A SANDBOX (cutbox-door.mjs). By AI agents, Wed Nov 11 2026. No macro, syntax, notation, axiom, sorry.
-/
import Derived.Test.Qxb6613165aFmtRows
import GoSem.ClaimSeven
namespace Go.Proofs.Qxb6613165aFmt
namespace Rows

/-- THE TOLD AND TIED CARD OF 'zzlaws_internal_wire_b1.FnRestAfterCountIsTheListBody'. -/
def fnRestAfterCountIsTheListBodyCard : Claim7 := { stood := { row := fnRestAfterCountIsTheListBodyRow, standIns := [], harness := (true, "33be2b1e4bb803afdaadf301868b9dc313c3c2782731d8907cf770f4f1635fc3"), looks := false }, told := true, laidByText := true, laidKinds := [.sentinel], laidTests := true, laidLooks := .later, goes := false }
def FnRestAfterCountIsTheListBodyToldSaid : Prop := Claim7.holds Tryf.pinned (.plain (OpenSpec.ofChange fnRestAfterCountIsTheListBodySpec)) fnRestAfterCountIsTheListBodyCard
/-- ITS FALSE NEIGHBOUR. Refute it at one input. -/
def FnRestAfterCountIsTheListBodyToldWrongFalsely : Prop := Claim7.holds Tryf.pinned (.plain (OpenSpec.ofChange fnRestAfterCountIsTheListBodyWrong)) fnRestAfterCountIsTheListBodyCard
end Rows
end Go.Proofs.Qxb6613165aFmt
