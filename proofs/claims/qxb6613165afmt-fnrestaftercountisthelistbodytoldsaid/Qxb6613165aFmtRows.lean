/-
  NARROWER THAN 'FOR EVERY INPUT', by the rows' own cells (each row's printed sentence says how): FnRestAfterCountIsTheListBody: ifaces, laid.
  DERIVED. THE GIVEN ROWS OF THIS SEAT. 1 by the template 'for every input the law returns true; each argument reads behind the call as it read before'; 0 by the template 'total and deterministic' (their statements: Qxb6613165aFmtTotals.lean).
  GIVEN WITH THE SEED: the statements are not yours to turn. If you find one false, say at which input.
  Laid BY PROGRAM, IN A SANDBOX (cutbox-rows.mjs): the forced cells as the released guide's own fill.sh prints them over the translation 03bf2bb3da30247a… (all of the seat's roots in one cut). By AI agents, Wed Nov 11 2026. No macro, syntax, notation, axiom, sorry.
-/
import Derived.Test.Qxb6613165aFmtChecked
import GoSem.Claim
import GoSem.ClaimJoined
import GoSem.ClaimMapViews
import Derived.JoinedTies
import Derived.KernelRfl
namespace Go.Proofs.Qxb6613165aFmt
/- THE CELL 'sum', in the pinned program and in every row, IS THE sha256 OF THE DUMP (.gsa) THAT Qxb6613165aFmtProg.lean LOADS. Nothing in Lean hashes anything: it is a label: what it is worth is what the hold of that sum in a sandbox is worth. -/
noncomputable def Tryf.pinned : Pinned := { name := "qxb6613165afmt", sum := "03bf2bb3da30247afb2e5cc6dadb965b55796ae1f481d07ea4dc190ff8bfbc61", checked := Tryf.checked }
namespace Rows
def none {H : Type} : Left H := { results := [], args := [] }

/- WHAT THE LISTED PACKAGE-LEVEL VARIABLES READ AS WHEN THE CALL BEGINS. Each datum BY PROGRAM (the guide's laid-datum.mjs) off the statement by which the dump's own 'gosem.cut.vars' lays the variable. In a bare row this is a premise. The card (Qxb6613165aFmtCards.lean) ties it to the program's text. -/
def laid_example_com_viewspace_viewspace_internal_wire_ErrMalformed {H : Type} : DataW H := .iface "*errors.errorString" (.ptr (.agg [.lit (.string [109, 97, 108, 102, 111, 114, 109, 101, 100, 32, 109, 101, 115, 115, 97, 103, 101])]))

/-- 'zzlaws_internal_wire_b1.FnRestAfterCountIsTheListBody': WHATEVER THE INPUT: true; the input reads as it did. -/
def fnRestAfterCountIsTheListBodySpec : ChangeSpec := { name := "fnRestAfterCountIsTheListBody", vars := ["example.com/viewspace/viewspace/internal/wire.ErrMalformed"], fn := fun _ => fun
  | [d, g1] => { results := [.lit (.bool true)], args := [d], vars := [g1] }
  | _ => none }
def fnRestAfterCountIsTheListBodyRow : OpenClaim := { program := "qxb6613165afmt", sum := "03bf2bb3da30247afb2e5cc6dadb965b55796ae1f481d07ea4dc190ff8bfbc61", func := "example.com/viewspace/viewspace/zzlaws_internal_wire_b1.FnRestAfterCountIsTheListBody", spec := "fnRestAfterCountIsTheListBody", stops := ["fmt.Sprintf", "fmt.errorf"], inPlace := ["fmt.errorf", "fmt.Sprintf"], named := ["example.com/viewspace/viewspace/internal/wire.ErrMalformed"], ifaces := true, apart := false, laid := [("example.com/viewspace/viewspace/internal/wire.ErrMalformed", laid_example_com_viewspace_viewspace_internal_wire_ErrMalformed)] }
/-- NO THEOREM (fmt's text is open here; it may be false): for the released tool's asking of the row's closed facts alone. THE STATEMENT IS 'FnRestAfterCountIsTheListBodyToldSaid' (Qxb6613165aFmtCards.lean). -/
def FnRestAfterCountIsTheListBodyFormAsk : Prop := fnRestAfterCountIsTheListBodyRow.holds Tryf.pinned (OpenSpec.ofChange fnRestAfterCountIsTheListBodySpec)

/-- ITS FALSE NEIGHBOUR: 'it returns false'. Refute it at one input. -/
def fnRestAfterCountIsTheListBodyWrong : ChangeSpec := { name := "fnRestAfterCountIsTheListBody", vars := ["example.com/viewspace/viewspace/internal/wire.ErrMalformed"], fn := fun _ => fun
  | [d, g1] => { results := [.lit (.bool false)], args := [d], vars := [g1] }
  | _ => none }
def FnRestAfterCountIsTheListBodyWrongFormAsk : Prop := fnRestAfterCountIsTheListBodyRow.holds Tryf.pinned (OpenSpec.ofChange fnRestAfterCountIsTheListBodyWrong)

end Rows
end Go.Proofs.Qxb6613165aFmt
