/-
  DERIVED. GIVEN WITH THE SEED: THE CARDS: each row of Qxb6613781aFmtRows.lean that lists a variable, with what it lists TIED to the program's text (the seventh form; the later family's looks); each row that meets fmt, with fmt's text TOLD by the authors' own Lean function (tested against real Go, not proved from fmt's source: count such statements apart). THE CARD IS WHAT COUNTS. Prove the row's statement (the work); the ties are given (Qxb6613781aFmtTie.lean); close each card by the builder's one call (the guide's Derived/Test/ToyasCard.lean, 'card_holds'). Laid BY PROGRAM, IN A SANDBOX (cutbox-door.mjs). By AI agents, Wed Nov 11 2026. No macro, syntax, notation, axiom, sorry.
-/
import Derived.Test.Qxb6613781aFmtRows
import GoSem.ClaimSeven
namespace Go.Proofs.Qxb6613781aFmt
namespace Rows

/-- THE TOLD AND TIED CARD OF 'zzlaws_internal_vhdx_b1.FnStreamFrontReadsTheBytesAtOff'. -/
def fnStreamFrontReadsTheBytesAtOffCard : Claim7 := { stood := { row := fnStreamFrontReadsTheBytesAtOffRow, standIns := [], harness := (true, "f9597271f02d27ebf87fb34afd068f350dffee9c39e5aa38d51db0c7e8eb0137"), looks := true }, told := true, laidByText := true, laidKinds := [.sentinel, .sentinel, .sentinel], laidTests := true, laidLooks := .later, goes := false }
def FnStreamFrontReadsTheBytesAtOffToldSaid : Prop := Claim7.holds Tryf.pinned (.plain (OpenSpec.ofChange fnStreamFrontReadsTheBytesAtOffSpec)) fnStreamFrontReadsTheBytesAtOffCard
/-- ITS FALSE NEIGHBOUR. Refute it at one input. -/
def FnStreamFrontReadsTheBytesAtOffToldWrongFalsely : Prop := Claim7.holds Tryf.pinned (.plain (OpenSpec.ofChange fnStreamFrontReadsTheBytesAtOffWrong)) fnStreamFrontReadsTheBytesAtOffCard

/-- THE TOLD AND TIED CARD OF 'zzlaws_internal_vhdx_b1.FnStreamAtReadsTheBytesAtOff'. -/
def fnStreamAtReadsTheBytesAtOffCard : Claim7 := { stood := { row := fnStreamAtReadsTheBytesAtOffRow, standIns := [], harness := (true, "f9597271f02d27ebf87fb34afd068f350dffee9c39e5aa38d51db0c7e8eb0137"), looks := true }, told := true, laidByText := true, laidKinds := [.sentinel, .sentinel, .sentinel], laidTests := true, laidLooks := .later, goes := false }
def FnStreamAtReadsTheBytesAtOffToldSaid : Prop := Claim7.holds Tryf.pinned (.plain (OpenSpec.ofChange fnStreamAtReadsTheBytesAtOffSpec)) fnStreamAtReadsTheBytesAtOffCard
/-- ITS FALSE NEIGHBOUR. Refute it at one input. -/
def FnStreamAtReadsTheBytesAtOffToldWrongFalsely : Prop := Claim7.holds Tryf.pinned (.plain (OpenSpec.ofChange fnStreamAtReadsTheBytesAtOffWrong)) fnStreamAtReadsTheBytesAtOffCard
end Rows
end Go.Proofs.Qxb6613781aFmt
