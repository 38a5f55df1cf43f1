/-
  NARROWER THAN 'FOR EVERY INPUT', by the rows' own cells (each row's printed sentence says how): FnStreamFrontReadsTheBytesAtOff: laid · FnStreamAtReadsTheBytesAtOff: laid.
  DERIVED. THE GIVEN ROWS OF THIS SEAT. 2 by the template 'for every input the law returns true; each argument reads behind the call as it read before'; 0 by the template 'total and deterministic' (their statements: Qxb6613781aFmtTotals.lean).
  GIVEN WITH THE SEED: the statements are not yours to turn. If you find one false, say at which input.
  Laid BY PROGRAM, IN A SANDBOX (cutbox-rows.mjs): the forced cells as the released guide's own fill.sh prints them over the translation 5431f84115c8992c… (all of the seat's roots in one cut). By AI agents, Wed Nov 11 2026. No macro, syntax, notation, axiom, sorry.
-/
import Derived.Test.Qxb6613781aFmtChecked
import GoSem.Claim
import GoSem.ClaimJoined
import GoSem.ClaimMapViews
import Derived.JoinedTies
import Derived.KernelRfl
namespace Go.Proofs.Qxb6613781aFmt
/- THE CELL 'sum', in the pinned program and in every row, IS THE sha256 OF THE DUMP (.gsa) THAT Qxb6613781aFmtProg.lean LOADS. Nothing in Lean hashes anything: it is a label: what it is worth is what the hold of that sum in a sandbox is worth. -/
noncomputable def Tryf.pinned : Pinned := { name := "qxb6613781afmt", sum := "5431f84115c8992c7f283d299a8804fa639887259a4cd909fd983800479d70c4", checked := Tryf.checked }
namespace Rows
def none {H : Type} : Left H := { results := [], args := [] }

/- WHAT THE LISTED PACKAGE-LEVEL VARIABLES READ AS WHEN THE CALL BEGINS. Each datum BY PROGRAM (the guide's laid-datum.mjs) off the statement by which the dump's own 'gosem.cut.vars' lays the variable. In a bare row this is a premise. The card (Qxb6613781aFmtCards.lean) ties it to the program's text. -/
def laid_io_ErrShortBuffer {H : Type} : DataW H := .iface "*errors.errorString" (.ptr (.agg [.lit (.string [115, 104, 111, 114, 116, 32, 98, 117, 102, 102, 101, 114])]))
def laid_io_EOF {H : Type} : DataW H := .iface "*errors.errorString" (.ptr (.agg [.lit (.string [69, 79, 70])]))
def laid_io_ErrUnexpectedEOF {H : Type} : DataW H := .iface "*errors.errorString" (.ptr (.agg [.lit (.string [117, 110, 101, 120, 112, 101, 99, 116, 101, 100, 32, 69, 79, 70])]))

/-- 'zzlaws_internal_vhdx_b1.FnStreamFrontReadsTheBytesAtOff': WHATEVER THE INPUT: true; the input reads as it did. -/
def fnStreamFrontReadsTheBytesAtOffSpec : ChangeSpec := { name := "fnStreamFrontReadsTheBytesAtOff", fn := fun _ => fun
  | [d1, d2, d3, d4, d5] => { results := [.lit (.bool true)], args := [d1, d2, d3, d4, d5] }
  | _ => none }
def fnStreamFrontReadsTheBytesAtOffRow : OpenClaim := { program := "qxb6613781afmt", sum := "5431f84115c8992c7f283d299a8804fa639887259a4cd909fd983800479d70c4", func := "example.com/drayage/drayage/zzlaws_internal_vhdx_b1.FnStreamFrontReadsTheBytesAtOff", spec := "fnStreamFrontReadsTheBytesAtOff", stops := ["fmt.errorf"], inPlace := ["fmt.errorf"], unfollowed := true, recurses := true, named := ["io.EOF", "io.ErrUnexpectedEOF", "io.ErrShortBuffer"], apart := false, laid := [("io.ErrShortBuffer", laid_io_ErrShortBuffer), ("io.EOF", laid_io_EOF), ("io.ErrUnexpectedEOF", laid_io_ErrUnexpectedEOF)] }
/-- NO THEOREM (fmt's text is open here; it may be false): for the released tool's asking of the row's closed facts alone. THE STATEMENT IS 'FnStreamFrontReadsTheBytesAtOffToldSaid' (Qxb6613781aFmtCards.lean). -/
def FnStreamFrontReadsTheBytesAtOffFormAsk : Prop := fnStreamFrontReadsTheBytesAtOffRow.holds Tryf.pinned (OpenSpec.ofChange fnStreamFrontReadsTheBytesAtOffSpec)

/-- ITS FALSE NEIGHBOUR: 'it returns false'. Refute it at one input. -/
def fnStreamFrontReadsTheBytesAtOffWrong : ChangeSpec := { name := "fnStreamFrontReadsTheBytesAtOff", fn := fun _ => fun
  | [d1, d2, d3, d4, d5] => { results := [.lit (.bool false)], args := [d1, d2, d3, d4, d5] }
  | _ => none }
def FnStreamFrontReadsTheBytesAtOffWrongFormAsk : Prop := fnStreamFrontReadsTheBytesAtOffRow.holds Tryf.pinned (OpenSpec.ofChange fnStreamFrontReadsTheBytesAtOffWrong)

/-- 'zzlaws_internal_vhdx_b1.FnStreamAtReadsTheBytesAtOff': WHATEVER THE INPUT: true; the input reads as it did. -/
def fnStreamAtReadsTheBytesAtOffSpec : ChangeSpec := { name := "fnStreamAtReadsTheBytesAtOff", fn := fun _ => fun
  | [d1, d2, d3, d4, d5] => { results := [.lit (.bool true)], args := [d1, d2, d3, d4, d5] }
  | _ => none }
def fnStreamAtReadsTheBytesAtOffRow : OpenClaim := { program := "qxb6613781afmt", sum := "5431f84115c8992c7f283d299a8804fa639887259a4cd909fd983800479d70c4", func := "example.com/drayage/drayage/zzlaws_internal_vhdx_b1.FnStreamAtReadsTheBytesAtOff", spec := "fnStreamAtReadsTheBytesAtOff", stops := ["fmt.errorf"], inPlace := ["fmt.errorf"], unfollowed := true, recurses := true, named := ["io.EOF", "io.ErrUnexpectedEOF", "io.ErrShortBuffer"], apart := false, laid := [("io.ErrShortBuffer", laid_io_ErrShortBuffer), ("io.EOF", laid_io_EOF), ("io.ErrUnexpectedEOF", laid_io_ErrUnexpectedEOF)] }
/-- NO THEOREM (fmt's text is open here; it may be false): for the released tool's asking of the row's closed facts alone. THE STATEMENT IS 'FnStreamAtReadsTheBytesAtOffToldSaid' (Qxb6613781aFmtCards.lean). -/
def FnStreamAtReadsTheBytesAtOffFormAsk : Prop := fnStreamAtReadsTheBytesAtOffRow.holds Tryf.pinned (OpenSpec.ofChange fnStreamAtReadsTheBytesAtOffSpec)

/-- ITS FALSE NEIGHBOUR: 'it returns false'. Refute it at one input. -/
def fnStreamAtReadsTheBytesAtOffWrong : ChangeSpec := { name := "fnStreamAtReadsTheBytesAtOff", fn := fun _ => fun
  | [d1, d2, d3, d4, d5] => { results := [.lit (.bool false)], args := [d1, d2, d3, d4, d5] }
  | _ => none }
def FnStreamAtReadsTheBytesAtOffWrongFormAsk : Prop := fnStreamAtReadsTheBytesAtOffRow.holds Tryf.pinned (OpenSpec.ofChange fnStreamAtReadsTheBytesAtOffWrong)

end Rows
end Go.Proofs.Qxb6613781aFmt
